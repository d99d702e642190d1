import JvmDerived
import JvmDerived.Pilot.@@N@@Statement
import JvmDerived.Pilot.@@N@@Code
set_option linter.unusedVariables false
set_option linter.unusedSimpArgs false
namespace Jvm.Pilot.@@N@@
open Jvm Jvm.ClassFile Sem Op Lib Jvm.Free Jvm.Stand Jvm.LawKit Jvm.RoadKit Bundle Jvm.Pilot.@@N@@.Jvm.D
theorem own_fldI {Z : State} {args : Array Value} {t : Term} {a : Addr} {C n d : String} {z : Int32} (ev : t.eval args Z none [] Z = some (.ref a)) (h : (Cond.eq (Term.field t C n d) (Term.int z)).value args Z none Z [] = some true) : Fld Z Z.heap a C n d (.int z) := by
  obtain ⟨x, y, h1, h2, k1, k2⟩ := cmp_v (Or.inl h)
  have e2 : y = .int z := (Option.some.inj h2).symm
  subst e2
  obtain ⟨w, rfl⟩ := k2
  have hq : (Cond.eq (Term.field t C n d) (Term.int z)).value args Z none Z [] = some (decide (w = z)) := by simp [Cond.value, h1, h2]
  have hw : w = z := gotT hq h
  subst hw
  exact Fld.start ((fld_at ev).symm.trans h1)
theorem own_fldJ {Z : State} {args : Array Value} {t : Term} {a : Addr} {C n d : String} {z : Int64} (ev : t.eval args Z none [] Z = some (.ref a)) (h : (Cond.eq (Term.field t C n d) (Term.long z)).value args Z none Z [] = some true) : Fld Z Z.heap a C n d (.long z) := by
  obtain ⟨x, y, h1, h2, k1, k2⟩ := cmp_v (Or.inl h)
  have e2 : y = .long z := (Option.some.inj h2).symm
  subst e2
  obtain ⟨w, rfl⟩ := k2
  have hq : (Cond.eq (Term.field t C n d) (Term.long z)).value args Z none Z [] = some (decide (w = z)) := eq_L h1 h2
  have hw : w = z := gotT hq h
  subst hw
  exact Fld.start ((fld_at ev).symm.trans h1)
theorem own_arrKeep {Z : State} {h h' : Heap} {ws : List Addr} {a : Addr} {c : Cell} {ty : FieldType} (F : Arr Z h a c ty) (K : Keep h h' ws) (q : a ∉ ws) : Arr Z h' a c ty := ⟨K.2.1 _ _ F.1 q, F.2⟩
theorem own_staKeep {Z : State} {h h' : Heap} {ws : List Addr} {C n d : String} {v : Value} (F : Sta Z h C n d v) (K : Keep h h' ws) (q : ∀ x ∈ ws, ∀ c : Cell, h[x]? = some c → c.vm.isStatics = false) : Sta Z h' C n d v := by
  obtain ⟨cf, i, k, f, st, cell, h1, h2, h3, h4, h5, h6, h7⟩ := F
  exact ⟨cf, i, k, f, st, cell, h1, h2, h3, h4, K.2.1 _ _ h5 (fun z => by rw [q _ z _ h5] at h6; cases h6), h6, h7⟩
theorem d2_0 : decode jdk_30_method_1_code 0 = .ok (.aload_n 0, 1) := by decide +kernel
theorem d2_1 : decode jdk_30_method_1_code 1 = .ok (.invokespecial 1, 3) := by decide +kernel
theorem d2_4 : decode jdk_30_method_1_code 4 = .ok (.return_, 1) := by decide +kernel
theorem pn_2 : plainName "java/lang/Record" = true := by first | (simp [plainName, overriddenIn]; done) | decide +kernel
theorem ef_2 (m : MethodId) (x0 : Addr) : entryFrame m #[(.ref x0)] 1 = mkF m 0 #[.val (.ref x0)] [] := by first | (simp [entryFrame, mkF, argsToLocals, Value.category]; done) | rfl
def Q2 (Z : State) (a1 : Addr) (h0 : Heap) (n0 : Nat) (v : Option Value) (h : Heap) (L : List Loc) : Prop := v = none ∧ Fr n0 L ∧ h = h0
set_option maxRecDepth 65536 in
set_option maxHeartbeats 40000000 in
theorem rm2 (l : Launch) (Z : State) (a0 : Array Value) (hw : ∀ d ∈ tables_1, d.before a0 Z = true) (ws : List Jvm.Cond) (a1 : Addr) (h0 : Heap) (n0 : Nat) (Z0 : n0 ≤ h0.size) :
    MetFree l (⟨"java/lang/Record", "<init>", "()V"⟩ : MethodName) (head1 (Jvm.Cond.code (⟨"java/lang/Record", "<init>", "()V"⟩ : MethodName) jdk_30_method_1_code 1 none :: ws) ({ frames := 1, cells := 0, slots := 0, locals := 12 } : Room)) (fun a U => a = #[(.ref a1)] ∧ Z.Warmed39 U.vm ∧ U.heap = h0) (fun _ _ _ _ _ => True) (fun _ U o U' => ∃ v L, o = .returned v ∧ Q2 Z a1 h0 n0 v U'.heap L ∧ FrameEnd U o U' L ({ frames := 1, cells := 0, slots := 0, locals := 12 } : Room).cells ({ frames := 1, cells := 0, slots := 0, locals := 12 } : Room).slots) := by
  refine MetFree.of_bodySF (plainFor_of_name pn_2) hisR ?_
  intro p e s m args below meth c s₁ Bd hml0 hP hK
  obtain ⟨rfl, hZ, hh⟩ := hP
  have hx := Bd.exec
  have hby := Bd.bytes
  have hml : c.maxLocals = 1 := hml0
  have hown : s.vm.findClass "java/lang/Record" = some m.cls := findClass_of_methodNamed Bd.named
  have hnm := (name_of_methodNamed Bd.named Bd.method).1
  have X0 : Stand p l e ({ frames := 1, cells := 0, slots := 0, locals := 12 } : Room) s m #[(.ref a1)] below meth c s₁ [] 0 0 := Stand.of_body Bd
  have e0 : s₁.heap = h0 := by rw [← hh, Bd.state]; rfl
  have N0 := Fr.nil n0
  have pre0 : ∀ t, Steps p.tables e below (s₁.setTop (mkF m 0 #[.val (.ref a1)] [])) t → Steps p.tables e below (s₁.setTop (entryFrame m #[(.ref a1)] 1)) t := fun t k => castTop (ef_2 m a1) k
  obtain ⟨T2, X2, e2, st2⟩ := initO X0 hx hZ hown (hw _ (List.mem_of_getElem? (i := 12) rfl)) (hw _ (List.mem_of_getElem? (i := 13) rfl)) (hw _ (List.mem_of_getElem? (i := 14) rfl)) e0 (g := (mkF m 1 #[.val (.ref a1)] [(.ref a1)])) rfl (by rw [hml]; rfl) rfl (hb hby d2_1) (by decide) (W := 0) (by show 2 * 0 + _ ≤ _; exact Nat.le_of_eq rfl) (by decide)
  obtain ⟨fs, hr, hrun, hended, hW, hsame⟩ := X2.leave (v := none) (fun _ => rfl)
  refine ⟨_, _, pre0 _ ?_, hrun, hended, _, _, rfl, ?_, ⟨_, rfl⟩, hW, hsame.mono (by decide) (by decide)⟩
  · show Steps p.tables e below (s₁.setTop (mkF m 0 #[.val (.ref a1)] [])) _
    refine XS.aloadN X0.here hx rfl (hb hby d2_0) rfl rfl ?_
    show Steps p.tables e below (s₁.setTop (mkF m 1 #[.val (.ref a1)] [(.ref a1)])) _
    refine st2 _ ?_
    show Steps p.tables e below (T2.setTop (mkF m 4 #[.val (.ref a1)] [])) _
    exact X2.returnOut hx Bd.returns (hb hby d2_4) hr
  · show Q2 Z a1 h0 n0 _ T2.heap _
    rw [e2]
    exact ⟨rfl, N0, rfl⟩
theorem d1_0 : decode prog_96_method_1_code 0 = .ok (.aload_n 0, 1) := by decide +kernel
theorem d1_1 : decode prog_96_method_1_code 1 = .ok (.invokespecial 1, 3) := by decide +kernel
theorem d1_4 : decode prog_96_method_1_code 4 = .ok (.aload_n 0, 1) := by decide +kernel
theorem d1_5 : decode prog_96_method_1_code 5 = .ok (.lload_n 1, 1) := by decide +kernel
theorem d1_6 : decode prog_96_method_1_code 6 = .ok (.putfield 7, 3) := by decide +kernel
theorem d1_9 : decode prog_96_method_1_code 9 = .ok (.aload_n 0, 1) := by decide +kernel
theorem d1_10 : decode prog_96_method_1_code 10 = .ok (.lload_n 3, 1) := by decide +kernel
theorem d1_11 : decode prog_96_method_1_code 11 = .ok (.putfield 13, 3) := by decide +kernel
theorem d1_14 : decode prog_96_method_1_code 14 = .ok (.return_, 1) := by decide +kernel
theorem pn_1 : plainName "com/example/labwire/labwire/store/LeftOut" = true := by first | (simp [plainName, overriddenIn]; done) | decide +kernel
theorem pd_1_0 : parseMethodDescriptor "()V" = some ⟨[], none⟩ := by decide +kernel
theorem ef_1 (m : MethodId) (x0 : Addr) (x1 : Int64) (x2 : Int64) : entryFrame m #[(.ref x0), (.long x1), (.long x2)] 5 = mkF m 0 #[.val (.ref x0), .val (.long x1), .second, .val (.long x2), .second] [] := by first | (simp [entryFrame, mkF, argsToLocals, Value.category]; done) | rfl
def Q1 (Z : State) (a1 : Addr) (q2 : Int64) (q3 : Int64) (u_observations : Value) (u_notes : Value) (h0 : Heap) (n0 : Nat) (v : Option Value) (h : Heap) (L : List Loc) : Prop := v = none ∧ Fr n0 L ∧ Keep h0 h [a1] ∧ Exa Z h a1 "com/example/labwire/labwire/store/LeftOut" ∧ Fld Z h a1 "com/example/labwire/labwire/store/LeftOut" "observations" "J" (.long q2) ∧ Fld Z h a1 "com/example/labwire/labwire/store/LeftOut" "notes" "J" (.long q3)
set_option maxRecDepth 65536 in
set_option maxHeartbeats 40000000 in
theorem rm1 (l : Launch) (Z : State) (a0 : Array Value) (hw : ∀ d ∈ tables_1, d.before a0 Z = true) (ws : List Jvm.Cond) (a1 : Addr) (q2 : Int64) (q3 : Int64) (u_observations : Value) (u_notes : Value) (h0 : Heap) (n0 : Nat) (Z0 : n0 ≤ h0.size) (g_a1 : n0 ≤ a1) (E_a1 : Exa Z h0 a1 "com/example/labwire/labwire/store/LeftOut") (F_observations_a1 : Fld Z h0 a1 "com/example/labwire/labwire/store/LeftOut" "observations" "J" u_observations) (F_notes_a1 : Fld Z h0 a1 "com/example/labwire/labwire/store/LeftOut" "notes" "J" u_notes) :
    MetFree l (⟨"com/example/labwire/labwire/store/LeftOut", "<init>", "(JJ)V"⟩ : MethodName) (head1 (Jvm.Cond.code (⟨"com/example/labwire/labwire/store/LeftOut", "<init>", "(JJ)V"⟩ : MethodName) prog_96_method_1_code 5 none :: ws) ({ frames := 2, cells := 0, slots := 0, locals := 24 } : Room)) (fun a U => a = #[(.ref a1), (.long q2), (.long q3)] ∧ Z.Warmed39 U.vm ∧ U.heap = h0) (fun _ _ _ _ _ => True) (fun _ U o U' => ∃ v L, o = .returned v ∧ Q1 Z a1 q2 q3 u_observations u_notes h0 n0 v U'.heap L ∧ FrameEnd U o U' L ({ frames := 2, cells := 0, slots := 0, locals := 24 } : Room).cells ({ frames := 2, cells := 0, slots := 0, locals := 24 } : Room).slots) := by
  refine MetFree.of_bodySF (plainFor_of_name pn_1) hisR ?_
  intro p e s m args below meth c s₁ Bd hml0 hP hK
  obtain ⟨rfl, hZ, hh⟩ := hP
  have hx := Bd.exec
  have hby := Bd.bytes
  have hml : c.maxLocals = 5 := hml0
  have hown : s.vm.findClass "com/example/labwire/labwire/store/LeftOut" = some m.cls := findClass_of_methodNamed Bd.named
  have hnm := (name_of_methodNamed Bd.named Bd.method).1
  have X0 : Stand p l e ({ frames := 2, cells := 0, slots := 0, locals := 24 } : Room) s m #[(.ref a1), (.long q2), (.long q3)] below meth c s₁ [] 0 0 := Stand.of_body Bd
  have e0 : s₁.heap = h0 := by rw [← hh, Bd.state]; rfl
  have N0 := Fr.nil n0
  have pre0 : ∀ t, Steps p.tables e below (s₁.setTop (mkF m 0 #[.val (.ref a1), .val (.long q2), .second, .val (.long q3), .second] [])) t → Steps p.tables e below (s₁.setTop (entryFrame m #[(.ref a1), (.long q2), (.long q3)] 5)) t := fun t k => castTop (ef_1 m a1 q2 q3) k
  obtain ⟨_, _, ⟨T4, L4, k4, n4⟩, -, X4, ⟨Lc4, hQ4, l4, y4, z4⟩, st4⟩ := X0.specialBack hx (y := (⟨"java/lang/Record", "<init>", "()V"⟩ : MethodName)) rfl hown (mvT hZ (hw _ (List.mem_of_getElem? (i := 7) rfl))) (mvT hZ (hw _ (List.mem_of_getElem? (i := 8) rfl))) (mvT hZ (hw _ (List.mem_of_getElem? (i := 11) rfl))) (by decide) (backOf (W := 0) (rm2 l Z a0 hw [] a1 h0 n0 Z0) hZ (hw _ (List.mem_of_getElem? (i := 11) rfl)) (hw _ (List.mem_of_getElem? (i := 10) rfl)) (by decide) (by decide)) (g := (mkF m 1 #[.val (.ref a1), .val (.long q2), .second, .val (.long q3), .second] [(.ref a1)])) rfl (by rw [hml]; rfl) (Steps.refl _) (a := a1) (argsL := []) (rest := []) (lenOf pd_1_0 rfl) rfl (by show 2 * 0 + _ ≤ _; exact Nat.le_of_eq rfl) (hb hby d1_1) (fun _ _ => ⟨rfl, e0, (by decide : 0 + 0 ≤ _), (by decide : 0 + 0 ≤ _)⟩)
  dsimp only [Pt.U, Pt.locs, Pt.cells, Pt.slots] at X4 l4 y4 z4 st4 hQ4
  subst l4 y4 z4
  obtain ⟨rfl, N4q, e4⟩ := hQ4
  have N4 := Fr.app N0 N4q
  obtain ⟨T5, h5, X5, e5, W5, st5⟩ := putF X4 hx hZ hown (host := "") (Or.inl (hw _ (List.mem_of_getElem? (i := 15) rfl))) Via.refl e4 F_observations_a1 E_a1 (Or.inr ⟨(hw _ (List.mem_of_getElem? (i := 16) rfl)), rfl, hnm⟩) (hw _ (List.mem_of_getElem? (i := 2) rfl)) (ty := .long) (by decide) rfl rfl (g := (mkF m 6 #[.val (.ref a1), .val (.long q2), .second, .val (.long q3), .second] [(.long q2), (.ref a1)])) rfl rfl (hb hby d1_6)
  have Z5 : n0 ≤ h5.size := Nat.le_trans Z0 (Keep.of_wr W5).1
  have KK5 := Keep.wr (Keep.refl h0 [a1]) W5 (Or.inl (List.mem_of_getElem? (i := 0) rfl))
  have N5 := Fr.snoc X5 N4 g_a1
  have Fw5 := Fld.same W5 F_observations_a1
  have f7 := (Exa.wr W5 E_a1)
  have f8 := (Fld.other W5 F_notes_a1 (Or.inr (slot_ne (Or.inr (hw _ (List.mem_of_getElem? (i := 18) rfl))) (Or.inr (hw _ (List.mem_of_getElem? (i := 16) rfl))) (by decide) (t := .long) (t' := .long) (by decide) (by decide))))
  obtain ⟨T6, h6, X6, e6, W6, st6⟩ := putF X5 hx hZ hown (host := "") (Or.inl (hw _ (List.mem_of_getElem? (i := 17) rfl))) Via.refl e5 f8 f7 (Or.inr ⟨(hw _ (List.mem_of_getElem? (i := 18) rfl)), rfl, hnm⟩) (hw _ (List.mem_of_getElem? (i := 2) rfl)) (ty := .long) (by decide) rfl rfl (g := (mkF m 11 #[.val (.ref a1), .val (.long q2), .second, .val (.long q3), .second] [(.long q3), (.ref a1)])) rfl rfl (hb hby d1_11)
  have Z6 : n0 ≤ h6.size := Nat.le_trans Z5 (Keep.of_wr W6).1
  have KK6 := Keep.wr KK5 W6 (Or.inl (List.mem_of_getElem? (i := 0) rfl))
  have N6 := Fr.snoc X6 N5 g_a1
  have Fw6 := Fld.same W6 f8
  obtain ⟨fs, hr, hrun, hended, hW, hsame⟩ := X6.leave (v := none) (fun _ => rfl)
  have f9 := (Exa.wr W6 f7)
  have f10 := (Fld.other W6 Fw5 (Or.inr (slot_ne (Or.inr (hw _ (List.mem_of_getElem? (i := 16) rfl))) (Or.inr (hw _ (List.mem_of_getElem? (i := 18) rfl))) (by decide) (t := .long) (t' := .long) (by decide) (by decide))))
  refine ⟨_, _, pre0 _ ?_, hrun, hended, _, _, rfl, ?_, ⟨_, rfl⟩, hW, hsame.mono (by decide) (by decide)⟩
  · show Steps p.tables e below (s₁.setTop (mkF m 0 #[.val (.ref a1), .val (.long q2), .second, .val (.long q3), .second] [])) _
    refine XS.aloadN X0.here hx rfl (hb hby d1_0) rfl rfl ?_
    show Steps p.tables e below (s₁.setTop (mkF m 1 #[.val (.ref a1), .val (.long q2), .second, .val (.long q3), .second] [(.ref a1)])) _
    refine st4.trans ?_
    show Steps p.tables e below (T4.setTop (mkF m 4 #[.val (.ref a1), .val (.long q2), .second, .val (.long q3), .second] [])) _
    refine XS.aloadN X4.here hx rfl (hb hby d1_4) rfl rfl ?_
    show Steps p.tables e below (T4.setTop (mkF m 5 #[.val (.ref a1), .val (.long q2), .second, .val (.long q3), .second] [(.ref a1)])) _
    refine XS.lloadN X4.here hx rfl (hb hby d1_5) rfl ?_
    show Steps p.tables e below (T4.setTop (mkF m 6 #[.val (.ref a1), .val (.long q2), .second, .val (.long q3), .second] [(.long q2), (.ref a1)])) _
    refine st5 _ ?_
    show Steps p.tables e below (T5.setTop (mkF m 9 #[.val (.ref a1), .val (.long q2), .second, .val (.long q3), .second] [])) _
    refine XS.aloadN X5.here hx rfl (hb hby d1_9) rfl rfl ?_
    show Steps p.tables e below (T5.setTop (mkF m 10 #[.val (.ref a1), .val (.long q2), .second, .val (.long q3), .second] [(.ref a1)])) _
    refine XS.lloadN X5.here hx rfl (hb hby d1_10) rfl ?_
    show Steps p.tables e below (T5.setTop (mkF m 11 #[.val (.ref a1), .val (.long q2), .second, .val (.long q3), .second] [(.long q3), (.ref a1)])) _
    refine st6 _ ?_
    show Steps p.tables e below (T6.setTop (mkF m 14 #[.val (.ref a1), .val (.long q2), .second, .val (.long q3), .second] [])) _
    exact X6.returnOut hx Bd.returns (hb hby d1_14) hr
  · show Q1 Z a1 q2 q3 u_observations u_notes h0 n0 _ T6.heap _
    rw [e6]
    exact ⟨rfl, N6, KK6, f9, f10, Fw6⟩
def own_f4 (w2 : Int64) (w6 : Int64) : Int32 := (if (0 : Int32) < (lcmpW w2 (0 : Int64)) then (1 : Int32) else (if (0 : Int32) < (lcmpW w6 (0 : Int64)) then (1 : Int32) else (0 : Int32)))
theorem d4_0 : decode prog_96_method_2_code 0 = .ok (.aload_n 0, 1) := by decide +kernel
theorem d4_1 : decode prog_96_method_2_code 1 = .ok (.getfield 7, 3) := by decide +kernel
theorem d4_4 : decode prog_96_method_2_code 4 = .ok (.lconst 0, 1) := by decide +kernel
theorem d4_5 : decode prog_96_method_2_code 5 = .ok (.lcmp, 1) := by decide +kernel
theorem d4_6 : decode prog_96_method_2_code 6 = .ok (.ifCond .gt 12, 3) := by decide +kernel
theorem d4_9 : decode prog_96_method_2_code 9 = .ok (.aload_n 0, 1) := by decide +kernel
theorem d4_10 : decode prog_96_method_2_code 10 = .ok (.getfield 13, 3) := by decide +kernel
theorem d4_13 : decode prog_96_method_2_code 13 = .ok (.lconst 0, 1) := by decide +kernel
theorem d4_14 : decode prog_96_method_2_code 14 = .ok (.lcmp, 1) := by decide +kernel
theorem d4_15 : decode prog_96_method_2_code 15 = .ok (.ifCond .le 7, 3) := by decide +kernel
theorem d4_18 : decode prog_96_method_2_code 18 = .ok (.iconst 1, 1) := by decide +kernel
theorem d4_19 : decode prog_96_method_2_code 19 = .ok (.goto 4, 3) := by decide +kernel
theorem d4_22 : decode prog_96_method_2_code 22 = .ok (.iconst 0, 1) := by decide +kernel
theorem d4_23 : decode prog_96_method_2_code 23 = .ok (.ireturn, 1) := by decide +kernel
theorem pn_4 : plainName "com/example/labwire/labwire/store/LeftOut" = true := by first | (simp [plainName, overriddenIn]; done) | decide +kernel
theorem ef_4 (m : MethodId) (x0 : Addr) : entryFrame m #[(.ref x0)] 1 = mkF m 0 #[.val (.ref x0)] [] := by first | (simp [entryFrame, mkF, argsToLocals, Value.category]; done) | rfl
def Q4 (Z : State) (a1 : Addr) (w2 : Int64) (w6 : Int64) (h0 : Heap) (n0 : Nat) (v : Option Value) (h : Heap) (L : List Loc) : Prop := v = some (.int (own_f4 w2 w6)) ∧ Fr n0 L ∧ h = h0
set_option maxRecDepth 65536 in
set_option maxHeartbeats 40000000 in
theorem rm4 (l : Launch) (Z : State) (a0 : Array Value) (hw : ∀ d ∈ tables_1, d.before a0 Z = true) (ws : List Jvm.Cond) (a1 : Addr) (w2 : Int64) (w6 : Int64) (h0 : Heap) (n0 : Nat) (Z0 : n0 ≤ h0.size) (F_observations_a1 : Fld Z h0 a1 "com/example/labwire/labwire/store/LeftOut" "observations" "J" (.long w2)) (F_notes_a1 : Fld Z h0 a1 "com/example/labwire/labwire/store/LeftOut" "notes" "J" (.long w6)) :
    MetFree l (⟨"com/example/labwire/labwire/store/LeftOut", "any", "()Z"⟩ : MethodName) (head1 (Jvm.Cond.code (⟨"com/example/labwire/labwire/store/LeftOut", "any", "()Z"⟩ : MethodName) prog_96_method_2_code 1 (some .boolean) :: ws) ({ frames := 0, cells := 0, slots := 0, locals := 0 } : Room)) (fun a U => a = #[(.ref a1)] ∧ Z.Warmed39 U.vm ∧ U.heap = h0) (fun _ _ _ _ _ => True) (fun _ U o U' => ∃ v L, o = .returned v ∧ Q4 Z a1 w2 w6 h0 n0 v U'.heap L ∧ FrameEnd U o U' L ({ frames := 0, cells := 0, slots := 0, locals := 0 } : Room).cells ({ frames := 0, cells := 0, slots := 0, locals := 0 } : Room).slots) := by
  refine MetFree.of_bodySF (plainFor_of_name pn_4) hisR ?_
  intro p e s m args below meth c s₁ Bd hml0 hP hK
  obtain ⟨rfl, hZ, hh⟩ := hP
  have hx := Bd.exec
  have hby := Bd.bytes
  have hml : c.maxLocals = 1 := hml0
  have hown : s.vm.findClass "com/example/labwire/labwire/store/LeftOut" = some m.cls := findClass_of_methodNamed Bd.named
  have hnm := (name_of_methodNamed Bd.named Bd.method).1
  have X0 : Stand p l e ({ frames := 0, cells := 0, slots := 0, locals := 0 } : Room) s m #[(.ref a1)] below meth c s₁ [] 0 0 := Stand.of_body Bd
  have e0 : s₁.heap = h0 := by rw [← hh, Bd.state]; rfl
  have N0 := Fr.nil n0
  have pre0 : ∀ t, Steps p.tables e below (s₁.setTop (mkF m 0 #[.val (.ref a1)] [])) t → Steps p.tables e below (s₁.setTop (entryFrame m #[(.ref a1)] 1)) t := fun t k => castTop (ef_4 m a1) k
  obtain ⟨T3, X3, e3, st3⟩ := getF X0 hx hZ hown (host := "") (Or.inl (hw _ (List.mem_of_getElem? (i := 15) rfl))) Via.refl e0 F_observations_a1 (g := (mkF m 1 #[.val (.ref a1)] [(.ref a1)])) rfl rfl (hb hby d4_1)
  have pr5 : ∀ t, Steps p.tables e below (T3.setTop (mkF m 6 #[.val (.ref a1)] [(.int (lcmpW w2 (0 : Int64)))])) t → Steps p.tables e below (s₁.setTop (entryFrame m #[(.ref a1)] 1)) t := by
    intro t k
    refine pre0 t ?_
    show Steps p.tables e below (s₁.setTop (mkF m 0 #[.val (.ref a1)] [])) _
    refine XS.aloadN X0.here hx rfl (hb hby d4_0) rfl rfl ?_
    show Steps p.tables e below (s₁.setTop (mkF m 1 #[.val (.ref a1)] [(.ref a1)])) _
    refine st3 _ ?_
    show Steps p.tables e below (T3.setTop (mkF m 4 #[.val (.ref a1)] [(.long w2)])) _
    refine XS.lconst X3.here hx rfl (hb hby d4_4) ?_
    show Steps p.tables e below (T3.setTop (mkF m 5 #[.val (.ref a1)] [(.long (0 : Int64)), (.long w2)])) _
    refine XS.lcmp X3.here hx rfl (hb hby d4_5) rfl ?_
    show Steps p.tables e below (T3.setTop (mkF m 6 #[.val (.ref a1)] [(.int (lcmpW w2 (0 : Int64)))])) _
    exact k
  by_cases hc4 : (0 : Int32) < (lcmpW w2 (0 : Int64))
  · obtain ⟨fs, hr, hrun, hended, hW, hsame⟩ := X3.leave (v := some (.int (1 : Int32))) (fun h => by rw [Bd.returns] at h; cases h)
    refine ⟨_, _, pr5 _ ?_, hrun, hended, _, _, rfl, ?_, ⟨_, rfl⟩, hW, hsame.mono (by decide) (by decide)⟩
    · show Steps p.tables e below (T3.setTop (mkF m 6 #[.val (.ref a1)] [(.int (lcmpW w2 (0 : Int64)))])) _
      refine XS.ifYes X3.here hx rfl (pc0 := 6) (pc' := 18) rfl (hb hby d4_6) rfl ((if0 _ _).trans (tlt hc4).2.2.1) (by decide) (by decide) ?_
      show Steps p.tables e below (T3.setTop (mkF m 18 #[.val (.ref a1)] [])) _
      refine XS.iconst X3.here hx rfl (hb hby d4_18) ?_
      show Steps p.tables e below (T3.setTop (mkF m 19 #[.val (.ref a1)] [(.int (1 : Int32))])) _
      refine XS.goto X3.here hx rfl (pc0 := 19) (pc' := 23) rfl (hb hby d4_19) (by decide) (by decide) ?_
      show Steps p.tables e below (T3.setTop (mkF m 23 #[.val (.ref a1)] [(.int (1 : Int32))])) _
      exact retN X3 hx (t := .boolean) Bd.returns (by simp) (hb hby d4_23) hr
    · show Q4 Z a1 w2 w6 h0 n0 _ T3.heap _
      rw [e3]
      exact ⟨(by rw [show (own_f4 w2 w6) = (1 : Int32) from by unfold own_f4; rw [if_pos hc4]]), N0, rfl⟩
  · obtain ⟨T7, X7, e7, st7⟩ := getF X3 hx hZ hown (host := "") (Or.inl (hw _ (List.mem_of_getElem? (i := 17) rfl))) Via.refl e3 F_notes_a1 (g := (mkF m 10 #[.val (.ref a1)] [(.ref a1)])) rfl rfl (hb hby d4_10)
    have pr9 : ∀ t, Steps p.tables e below (T7.setTop (mkF m 15 #[.val (.ref a1)] [(.int (lcmpW w6 (0 : Int64)))])) t → Steps p.tables e below (s₁.setTop (entryFrame m #[(.ref a1)] 1)) t := by
      intro t k
      refine pr5 t ?_
      show Steps p.tables e below (T3.setTop (mkF m 6 #[.val (.ref a1)] [(.int (lcmpW w2 (0 : Int64)))])) _
      refine XS.ifNo X3.here hx rfl (hb hby d4_6) rfl ((if0 _ _).trans (flt hc4).2.2.1) ?_
      show Steps p.tables e below (T3.setTop (mkF m 9 #[.val (.ref a1)] [])) _
      refine XS.aloadN X3.here hx rfl (hb hby d4_9) rfl rfl ?_
      show Steps p.tables e below (T3.setTop (mkF m 10 #[.val (.ref a1)] [(.ref a1)])) _
      refine st7 _ ?_
      show Steps p.tables e below (T7.setTop (mkF m 13 #[.val (.ref a1)] [(.long w6)])) _
      refine XS.lconst X7.here hx rfl (hb hby d4_13) ?_
      show Steps p.tables e below (T7.setTop (mkF m 14 #[.val (.ref a1)] [(.long (0 : Int64)), (.long w6)])) _
      refine XS.lcmp X7.here hx rfl (hb hby d4_14) rfl ?_
      show Steps p.tables e below (T7.setTop (mkF m 15 #[.val (.ref a1)] [(.int (lcmpW w6 (0 : Int64)))])) _
      exact k
    by_cases hc8 : (0 : Int32) < (lcmpW w6 (0 : Int64))
    · obtain ⟨fs, hr, hrun, hended, hW, hsame⟩ := X7.leave (v := some (.int (1 : Int32))) (fun h => by rw [Bd.returns] at h; cases h)
      refine ⟨_, _, pr9 _ ?_, hrun, hended, _, _, rfl, ?_, ⟨_, rfl⟩, hW, hsame.mono (by decide) (by decide)⟩
      · show Steps p.tables e below (T7.setTop (mkF m 15 #[.val (.ref a1)] [(.int (lcmpW w6 (0 : Int64)))])) _
        refine XS.ifNo X7.here hx rfl (hb hby d4_15) rfl ((if0 _ _).trans (tlt hc8).2.2.2) ?_
        show Steps p.tables e below (T7.setTop (mkF m 18 #[.val (.ref a1)] [])) _
        refine XS.iconst X7.here hx rfl (hb hby d4_18) ?_
        show Steps p.tables e below (T7.setTop (mkF m 19 #[.val (.ref a1)] [(.int (1 : Int32))])) _
        refine XS.goto X7.here hx rfl (pc0 := 19) (pc' := 23) rfl (hb hby d4_19) (by decide) (by decide) ?_
        show Steps p.tables e below (T7.setTop (mkF m 23 #[.val (.ref a1)] [(.int (1 : Int32))])) _
        exact retN X7 hx (t := .boolean) Bd.returns (by simp) (hb hby d4_23) hr
      · show Q4 Z a1 w2 w6 h0 n0 _ T7.heap _
        rw [e7]
        exact ⟨(by rw [show (own_f4 w2 w6) = (1 : Int32) from by unfold own_f4; rw [if_neg hc4, if_pos hc8]]), N0, rfl⟩
    · obtain ⟨fs, hr, hrun, hended, hW, hsame⟩ := X7.leave (v := some (.int (0 : Int32))) (fun h => by rw [Bd.returns] at h; cases h)
      refine ⟨_, _, pr9 _ ?_, hrun, hended, _, _, rfl, ?_, ⟨_, rfl⟩, hW, hsame.mono (by decide) (by decide)⟩
      · show Steps p.tables e below (T7.setTop (mkF m 15 #[.val (.ref a1)] [(.int (lcmpW w6 (0 : Int64)))])) _
        refine XS.ifYes X7.here hx rfl (pc0 := 15) (pc' := 22) rfl (hb hby d4_15) rfl ((if0 _ _).trans (flt hc8).2.2.2) (by decide) (by decide) ?_
        show Steps p.tables e below (T7.setTop (mkF m 22 #[.val (.ref a1)] [])) _
        refine XS.iconst X7.here hx rfl (hb hby d4_22) ?_
        show Steps p.tables e below (T7.setTop (mkF m 23 #[.val (.ref a1)] [(.int (0 : Int32))])) _
        exact retN X7 hx (t := .boolean) Bd.returns (by simp) (hb hby d4_23) hr
      · show Q4 Z a1 w2 w6 h0 n0 _ T7.heap _
        rw [e7]
        exact ⟨(by rw [show (own_f4 w2 w6) = (0 : Int32) from by unfold own_f4; rw [if_neg hc4, if_neg hc8]]), N0, rfl⟩
theorem own_pos (x : Int64) : 0 ≤ (x &&& 9223372036854775807).toInt := by
  rw [c_maskL x 9223372036854775807 63 (by decide) (by decide)]
  exact Int.emod_nonneg _ (by decide)
theorem own_or0 (o n : Int64) : (o ||| n) = 0 ↔ o = 0 ∧ n = 0 := by
  rw [← Int64.toBitVec_inj, ← Int64.toBitVec_inj, ← Int64.toBitVec_inj, Int64.toBitVec_or]
  exact BitVec.or_eq_zero_iff
theorem own_gt0 (o : Int64) (ho : 0 ≤ o.toInt) : (0 : Int64) < o ↔ ¬ o = 0 := by
  rw [Int64.lt_iff_toInt_lt, ← Int64.toInt_inj]
  show (0 : Int) < o.toInt ↔ ¬ o.toInt = 0
  omega
theorem own_any (o n : Int64) (ho : 0 ≤ o.toInt) (hn : 0 ≤ n.toInt) : own_f4 o n = if lcmpW (o ||| n) 0 = 0 then (0 : Int32) else 1 := by
  unfold own_f4
  have h1 := (lw_gt o 0).trans (own_gt0 o ho)
  have h2 := (lw_gt n 0).trans (own_gt0 n hn)
  have h3 := (lw_eq (o ||| n) 0).trans (own_or0 o n)
  by_cases q1 : o = 0
  · by_cases q2 : n = 0
    · rw [if_neg (fun z => h1.mp z q1), if_neg (fun z => h2.mp z q2), if_pos (h3.mpr ⟨q1, q2⟩)]
    · rw [if_neg (fun z => h1.mp z q1), if_pos (h2.mpr q2), if_neg (fun z => q2 (h3.mp z).2)]
  · rw [if_pos (h1.mpr q1), if_neg (fun z => q1 (h3.mp z).1)]
theorem pn_0 : plainName "com/example/labwire/labwire/store/LeftOutAnyPinLaw" = true := by first | (simp [plainName, overriddenIn]; done) | decide +kernel
theorem pd_0_0 : parseMethodDescriptor "(JJ)V" = some ⟨[.long, .long], none⟩ := by decide +kernel
theorem pd_0_1 : parseMethodDescriptor "()Z" = some ⟨[], some .boolean⟩ := by decide +kernel
theorem ef_0 (m : MethodId) (x0 : Int64) (x1 : Int64) (x2 : Int32) : entryFrame m #[(.long x0), (.long x1), (.int x2)] maxLocals = mkF m 0 #[.val (.long x0), .second, .val (.long x1), .second, .val (.int x2), .unset, .unset, .unset, .unset, .unset, .unset] [] := by first | (simp [entryFrame, mkF, argsToLocals, Value.category, maxLocals]; done) | rfl
def Q0 (Z : State) (q1 : Int64) (q2 : Int64) (p3 : Int32) (s_NONE : Addr) (h0 : Heap) (n0 : Nat) (v : Option Value) (h : Heap) (L : List Loc) : Prop := v = some (.int (1 : Int32)) ∧ Fr n0 L
set_option maxRecDepth 65536 in
set_option maxHeartbeats 40000000 in
theorem rm0 (l : Launch) (Z : State) (a0 : Array Value) (hw : ∀ d ∈ tables_1, d.before a0 Z = true) (ws : List Jvm.Cond) (q1 : Int64) (q2 : Int64) (p3 : Int32) (s_NONE : Addr) (h0 : Heap) (n0 : Nat) (Z0 : n0 ≤ h0.size) (hq73_1 : ((p3 &&& (1 : Int32)) = (0 : Int32)) → ((p3 &&& (2 : Int32)) = (0 : Int32)) → (own_f4 (q1 &&& (9223372036854775807 : Int64)) (q2 &&& (9223372036854775807 : Int64))) = (if (lcmpW ((q1 &&& (9223372036854775807 : Int64)) ||| (q2 &&& (9223372036854775807 : Int64))) (0 : Int64)) = (0 : Int32) then (0 : Int32) else (1 : Int32))) (S_NONE : Sta Z h0 "com/example/labwire/labwire/store/LeftOut" "NONE" "Lcom/example/labwire/labwire/store/LeftOut;" (.ref s_NONE)) (E_s_NONE : Exa Z h0 s_NONE "com/example/labwire/labwire/store/LeftOut") (F_observations_s_NONE : Fld Z h0 s_NONE "com/example/labwire/labwire/store/LeftOut" "observations" "J" (.long (0 : Int64))) (F_notes_s_NONE : Fld Z h0 s_NONE "com/example/labwire/labwire/store/LeftOut" "notes" "J" (.long (0 : Int64))) (hq73_2 : ((p3 &&& (1 : Int32)) = (0 : Int32)) → (¬ ((p3 &&& (2 : Int32)) = (0 : Int32))) → (own_f4 (q1 &&& (9223372036854775807 : Int64)) (0 : Int64)) = (if (lcmpW ((q1 &&& (9223372036854775807 : Int64)) ||| (0 : Int64)) (0 : Int64)) = (0 : Int32) then (0 : Int32) else (1 : Int32))) (hq73_3 : (¬ ((p3 &&& (1 : Int32)) = (0 : Int32))) → ((p3 &&& (2 : Int32)) = (0 : Int32)) → (own_f4 (0 : Int64) (q2 &&& (9223372036854775807 : Int64))) = (if (lcmpW ((0 : Int64) ||| (q2 &&& (9223372036854775807 : Int64))) (0 : Int64)) = (0 : Int32) then (0 : Int32) else (1 : Int32))) (hq73_4 : (¬ ((p3 &&& (1 : Int32)) = (0 : Int32))) → (¬ ((p3 &&& (2 : Int32)) = (0 : Int32))) → (own_f4 (0 : Int64) (0 : Int64)) = (if (lcmpW ((0 : Int64) ||| (0 : Int64)) (0 : Int64)) = (0 : Int32) then (0 : Int32) else (1 : Int32))) :
    MetFree l x (head1 (Jvm.Cond.code x code maxLocals ret :: ws) room_1) (fun a U => a = #[(.long q1), (.long q2), (.int p3)] ∧ Z.Warmed39 U.vm ∧ U.heap = h0) (fun _ _ _ _ _ => True) (fun _ U o U' => ∃ v L, o = .returned v ∧ Q0 Z q1 q2 p3 s_NONE h0 n0 v U'.heap L ∧ FrameEnd U o U' L room_1.cells room_1.slots) := by
  refine MetFree.of_bodySF (plainFor_of_name pn_0) hisR ?_
  intro p e s m args below meth c s₁ Bd hml0 hP hK
  obtain ⟨rfl, hZ, hh⟩ := hP
  have hx := Bd.exec
  have hby := Bd.bytes
  have hml : c.maxLocals = 11 := hml0
  have hown : s.vm.findClass "com/example/labwire/labwire/store/LeftOutAnyPinLaw" = some m.cls := findClass_of_methodNamed Bd.named
  have hnm := (name_of_methodNamed Bd.named Bd.method).1
  have X0 : Stand p l e room_1 s m #[(.long q1), (.long q2), (.int p3)] below meth c s₁ [] 0 0 := Stand.of_body Bd
  have e0 : s₁.heap = h0 := by rw [← hh, Bd.state]; rfl
  have N0 := Fr.nil n0
  have pre0 : ∀ t, Steps p.tables e below (s₁.setTop (mkF m 0 #[.val (.long q1), .second, .val (.long q2), .second, .val (.int p3), .unset, .unset, .unset, .unset, .unset, .unset] [])) t → Steps p.tables e below (s₁.setTop (entryFrame m #[(.long q1), (.long q2), (.int p3)] maxLocals)) t := fun t k => castTop (ef_0 m q1 q2 p3) k
  have pr5 : ∀ t, Steps p.tables e below (s₁.setTop (mkF m 4 #[.val (.long q1), .second, .val (.long q2), .second, .val (.int p3), .unset, .unset, .unset, .unset, .unset, .unset] [(.int (p3 &&& (1 : Int32)))])) t → Steps p.tables e below (s₁.setTop (entryFrame m #[(.long q1), (.long q2), (.int p3)] maxLocals)) t := by
    intro t k
    refine pre0 t ?_
    show Steps p.tables e below (s₁.setTop (mkF m 0 #[.val (.long q1), .second, .val (.long q2), .second, .val (.int p3), .unset, .unset, .unset, .unset, .unset, .unset] [])) _
    refine XS.iload X0.here hx rfl (hb hby at_0) rfl ?_
    show Steps p.tables e below (s₁.setTop (mkF m 2 #[.val (.long q1), .second, .val (.long q2), .second, .val (.int p3), .unset, .unset, .unset, .unset, .unset, .unset] [(.int p3)])) _
    refine XS.iconst X0.here hx rfl (hb hby at_2) ?_
    show Steps p.tables e below (s₁.setTop (mkF m 3 #[.val (.long q1), .second, .val (.long q2), .second, .val (.int p3), .unset, .unset, .unset, .unset, .unset, .unset] [(.int (1 : Int32)), (.int p3)])) _
    refine XS.iand X0.here hx rfl (hb hby at_3) rfl ?_
    show Steps p.tables e below (s₁.setTop (mkF m 4 #[.val (.long q1), .second, .val (.long q2), .second, .val (.int p3), .unset, .unset, .unset, .unset, .unset, .unset] [(.int (p3 &&& (1 : Int32)))])) _
    exact k
  by_cases hc4 : (p3 &&& (1 : Int32)) = (0 : Int32)
  · have pr7 : ∀ t, Steps p.tables e below (s₁.setTop (mkF m 22 #[.val (.long q1), .second, .val (.long q2), .second, .val (.int p3), .val (.long (q1 &&& (9223372036854775807 : Int64))), .second, .unset, .unset, .unset, .unset] [(.int (p3 &&& (2 : Int32)))])) t → Steps p.tables e below (s₁.setTop (entryFrame m #[(.long q1), (.long q2), (.int p3)] maxLocals)) t := by
      intro t k
      refine pr5 t ?_
      show Steps p.tables e below (s₁.setTop (mkF m 4 #[.val (.long q1), .second, .val (.long q2), .second, .val (.int p3), .unset, .unset, .unset, .unset, .unset, .unset] [(.int (p3 &&& (1 : Int32)))])) _
      refine XS.ifYes X0.here hx rfl (pc0 := 4) (pc' := 11) rfl (hb hby at_4) rfl ((if0 _ _).trans (teq hc4).1) (by decide) (by decide) ?_
      show Steps p.tables e below (s₁.setTop (mkF m 11 #[.val (.long q1), .second, .val (.long q2), .second, .val (.int p3), .unset, .unset, .unset, .unset, .unset, .unset] [])) _
      refine XS.lloadN X0.here hx rfl (hb hby at_11) rfl ?_
      show Steps p.tables e below (s₁.setTop (mkF m 12 #[.val (.long q1), .second, .val (.long q2), .second, .val (.int p3), .unset, .unset, .unset, .unset, .unset, .unset] [(.long q1)])) _
      refine X0.ldc2Long hx hown (mvT hZ (hw _ (List.mem_of_getElem? (i := 0) rfl))) (g := (mkF m 12 #[.val (.long q1), .second, .val (.long q2), .second, .val (.int p3), .unset, .unset, .unset, .unset, .unset, .unset] [(.long q1)])) rfl (hb hby at_12) _ ?_
      show Steps p.tables e below (s₁.setTop (mkF m 15 #[.val (.long q1), .second, .val (.long q2), .second, .val (.int p3), .unset, .unset, .unset, .unset, .unset, .unset] [(.long (9223372036854775807 : Int64)), (.long q1)])) _
      refine XS.land X0.here hx rfl (hb hby at_15) rfl ?_
      show Steps p.tables e below (s₁.setTop (mkF m 16 #[.val (.long q1), .second, .val (.long q2), .second, .val (.int p3), .unset, .unset, .unset, .unset, .unset, .unset] [(.long (q1 &&& (9223372036854775807 : Int64)))])) _
      refine XS.lstore X0.here hx rfl (hb hby at_16) rfl (l' := #[.val (.long q1), .second, .val (.long q2), .second, .val (.int p3), .val (.long (q1 &&& (9223372036854775807 : Int64))), .second, .unset, .unset, .unset, .unset]) rfl ?_
      show Steps p.tables e below (s₁.setTop (mkF m 18 #[.val (.long q1), .second, .val (.long q2), .second, .val (.int p3), .val (.long (q1 &&& (9223372036854775807 : Int64))), .second, .unset, .unset, .unset, .unset] [])) _
      refine XS.iload X0.here hx rfl (hb hby at_18) rfl ?_
      show Steps p.tables e below (s₁.setTop (mkF m 20 #[.val (.long q1), .second, .val (.long q2), .second, .val (.int p3), .val (.long (q1 &&& (9223372036854775807 : Int64))), .second, .unset, .unset, .unset, .unset] [(.int p3)])) _
      refine XS.iconst X0.here hx rfl (hb hby at_20) ?_
      show Steps p.tables e below (s₁.setTop (mkF m 21 #[.val (.long q1), .second, .val (.long q2), .second, .val (.int p3), .val (.long (q1 &&& (9223372036854775807 : Int64))), .second, .unset, .unset, .unset, .unset] [(.int (2 : Int32)), (.int p3)])) _
      refine XS.iand X0.here hx rfl (hb hby at_21) rfl ?_
      show Steps p.tables e below (s₁.setTop (mkF m 22 #[.val (.long q1), .second, .val (.long q2), .second, .val (.int p3), .val (.long (q1 &&& (9223372036854775807 : Int64))), .second, .unset, .unset, .unset, .unset] [(.int (p3 &&& (2 : Int32)))])) _
      exact k
    by_cases hc6 : (p3 &&& (2 : Int32)) = (0 : Int32)
    · obtain ⟨T8, h8, X8, e8, E8, A8, D8, -, st8⟩ := newO X0 hx hZ hown (hw _ (List.mem_of_getElem? (i := 1) rfl)) (hw _ (List.mem_of_getElem? (i := 2) rfl)) (hw _ (List.mem_of_getElem? (i := 3) rfl)) e0 (g := (mkF m 36 #[.val (.long q1), .second, .val (.long q2), .second, .val (.int p3), .val (.long (q1 &&& (9223372036854775807 : Int64))), .second, .val (.long (q2 &&& (9223372036854775807 : Int64))), .second, .unset, .unset] [])) rfl (hb hby at_36) (by decide) (by decide)
      obtain ⟨b8, g8⟩ : ∃ z, z = h0.size := ⟨_, rfl⟩
      rw [← g8] at A8 D8 st8
      have g_b8 : n0 ≤ b8 := Nat.le_trans Z0 (Nat.le_of_eq g8.symm)
      have sz_b8 : h0.size ≤ b8 := Nat.le_trans (Keep.refl h0 []).1 (Nat.le_of_eq g8.symm)
      have Z8 : n0 ≤ h8.size := Nat.le_trans Z0 E8.1
      have KK8 := (Keep.ext (Keep.refl h0 []) E8)
      have F8_observations : Fld Z h8 b8 "com/example/labwire/labwire/store/LeftOut" "observations" "J" (.long (0 : Int64)) := D8 (Or.inr (hw _ (List.mem_of_getElem? (i := 16) rfl))) (ty := .long) (by decide)
      have F8_notes : Fld Z h8 b8 "com/example/labwire/labwire/store/LeftOut" "notes" "J" (.long (0 : Int64)) := D8 (Or.inr (hw _ (List.mem_of_getElem? (i := 18) rfl))) (ty := .long) (by decide)
      obtain ⟨_, _, ⟨T9, L9, k9, n9⟩, -, X9, ⟨Lc9, hQ9, l9, y9, z9⟩, st9⟩ := X8.specialBack hx (y := (⟨"com/example/labwire/labwire/store/LeftOut", "<init>", "(JJ)V"⟩ : MethodName)) rfl hown (mvT hZ (hw _ (List.mem_of_getElem? (i := 4) rfl))) (mvT hZ (hw _ (List.mem_of_getElem? (i := 5) rfl))) (mvT hZ (hw _ (List.mem_of_getElem? (i := 6) rfl))) (by decide) (backOf (W := 1) (rm1 l Z a0 hw [] b8 (q1 &&& (9223372036854775807 : Int64)) (q2 &&& (9223372036854775807 : Int64)) (.long (0 : Int64)) (.long (0 : Int64)) h8 n0 Z8 g_b8 A8 F8_observations F8_notes) hZ (hw _ (List.mem_of_getElem? (i := 6) rfl)) (hw _ (List.mem_of_getElem? (i := 3) rfl)) (by decide) (by decide)) (g := (mkF m 44 #[.val (.long q1), .second, .val (.long q2), .second, .val (.int p3), .val (.long (q1 &&& (9223372036854775807 : Int64))), .second, .val (.long (q2 &&& (9223372036854775807 : Int64))), .second, .unset, .unset] [(.long (q2 &&& (9223372036854775807 : Int64))), (.long (q1 &&& (9223372036854775807 : Int64))), (.ref b8), (.ref b8)])) rfl (by rw [hml]; rfl) (Steps.refl _) (a := b8) (argsL := [(.long (q1 &&& (9223372036854775807 : Int64))), (.long (q2 &&& (9223372036854775807 : Int64)))]) (rest := [(.ref b8)]) (lenOf pd_0_0 rfl) rfl (by show 2 * 0 + _ ≤ _; exact Nat.le_of_eq rfl) (hb hby at_44) (fun _ _ => ⟨rfl, e8, (by decide : 1 + 0 ≤ _), (by decide : 2 + 0 ≤ _)⟩)
      dsimp only [Pt.U, Pt.locs, Pt.cells, Pt.slots] at X9 l9 y9 z9 st9 hQ9
      subst l9 y9 z9
      obtain ⟨rfl, N9q, K9, A9, G9_observations, G9_notes⟩ := hQ9
      have N9 := Fr.app N0 N9q
      have Z9 : n0 ≤ T9.heap.size := Nat.le_trans Z8 K9.1
      have KK9 := Keep.trans KK8 K9 (allS (Or.inr sz_b8) all0)
      have pr10 : ∀ t, Steps p.tables e below (T9.setTop (mkF m 64 #[.val (.long q1), .second, .val (.long q2), .second, .val (.int p3), .val (.long (q1 &&& (9223372036854775807 : Int64))), .second, .val (.long (q2 &&& (9223372036854775807 : Int64))), .second, .val (.ref b8), .unset] [(.int (if (lcmpW ((q1 &&& (9223372036854775807 : Int64)) ||| (q2 &&& (9223372036854775807 : Int64))) (0 : Int64)) = (0 : Int32) then (0 : Int32) else (1 : Int32)))])) t → Steps p.tables e below (s₁.setTop (entryFrame m #[(.long q1), (.long q2), (.int p3)] maxLocals)) t := by
        intro t k
        refine pr7 t ?_
        show Steps p.tables e below (s₁.setTop (mkF m 22 #[.val (.long q1), .second, .val (.long q2), .second, .val (.int p3), .val (.long (q1 &&& (9223372036854775807 : Int64))), .second, .unset, .unset, .unset, .unset] [(.int (p3 &&& (2 : Int32)))])) _
        refine XS.ifYes X0.here hx rfl (pc0 := 22) (pc' := 29) rfl (hb hby at_22) rfl ((if0 _ _).trans (teq hc6).1) (by decide) (by decide) ?_
        show Steps p.tables e below (s₁.setTop (mkF m 29 #[.val (.long q1), .second, .val (.long q2), .second, .val (.int p3), .val (.long (q1 &&& (9223372036854775807 : Int64))), .second, .unset, .unset, .unset, .unset] [])) _
        refine XS.lloadN X0.here hx rfl (hb hby at_29) rfl ?_
        show Steps p.tables e below (s₁.setTop (mkF m 30 #[.val (.long q1), .second, .val (.long q2), .second, .val (.int p3), .val (.long (q1 &&& (9223372036854775807 : Int64))), .second, .unset, .unset, .unset, .unset] [(.long q2)])) _
        refine X0.ldc2Long hx hown (mvT hZ (hw _ (List.mem_of_getElem? (i := 0) rfl))) (g := (mkF m 30 #[.val (.long q1), .second, .val (.long q2), .second, .val (.int p3), .val (.long (q1 &&& (9223372036854775807 : Int64))), .second, .unset, .unset, .unset, .unset] [(.long q2)])) rfl (hb hby at_30) _ ?_
        show Steps p.tables e below (s₁.setTop (mkF m 33 #[.val (.long q1), .second, .val (.long q2), .second, .val (.int p3), .val (.long (q1 &&& (9223372036854775807 : Int64))), .second, .unset, .unset, .unset, .unset] [(.long (9223372036854775807 : Int64)), (.long q2)])) _
        refine XS.land X0.here hx rfl (hb hby at_33) rfl ?_
        show Steps p.tables e below (s₁.setTop (mkF m 34 #[.val (.long q1), .second, .val (.long q2), .second, .val (.int p3), .val (.long (q1 &&& (9223372036854775807 : Int64))), .second, .unset, .unset, .unset, .unset] [(.long (q2 &&& (9223372036854775807 : Int64)))])) _
        refine XS.lstore X0.here hx rfl (hb hby at_34) rfl (l' := #[.val (.long q1), .second, .val (.long q2), .second, .val (.int p3), .val (.long (q1 &&& (9223372036854775807 : Int64))), .second, .val (.long (q2 &&& (9223372036854775807 : Int64))), .second, .unset, .unset]) rfl ?_
        show Steps p.tables e below (s₁.setTop (mkF m 36 #[.val (.long q1), .second, .val (.long q2), .second, .val (.int p3), .val (.long (q1 &&& (9223372036854775807 : Int64))), .second, .val (.long (q2 &&& (9223372036854775807 : Int64))), .second, .unset, .unset] [])) _
        refine st8 _ ?_
        show Steps p.tables e below (T8.setTop (mkF m 39 #[.val (.long q1), .second, .val (.long q2), .second, .val (.int p3), .val (.long (q1 &&& (9223372036854775807 : Int64))), .second, .val (.long (q2 &&& (9223372036854775807 : Int64))), .second, .unset, .unset] [(.ref b8)])) _
        refine XS.dup X8.here hx rfl (hb hby at_39) rfl rfl ?_
        show Steps p.tables e below (T8.setTop (mkF m 40 #[.val (.long q1), .second, .val (.long q2), .second, .val (.int p3), .val (.long (q1 &&& (9223372036854775807 : Int64))), .second, .val (.long (q2 &&& (9223372036854775807 : Int64))), .second, .unset, .unset] [(.ref b8), (.ref b8)])) _
        refine XS.lload X8.here hx rfl (hb hby at_40) rfl ?_
        show Steps p.tables e below (T8.setTop (mkF m 42 #[.val (.long q1), .second, .val (.long q2), .second, .val (.int p3), .val (.long (q1 &&& (9223372036854775807 : Int64))), .second, .val (.long (q2 &&& (9223372036854775807 : Int64))), .second, .unset, .unset] [(.long (q1 &&& (9223372036854775807 : Int64))), (.ref b8), (.ref b8)])) _
        refine XS.lload X8.here hx rfl (hb hby at_42) rfl ?_
        show Steps p.tables e below (T8.setTop (mkF m 44 #[.val (.long q1), .second, .val (.long q2), .second, .val (.int p3), .val (.long (q1 &&& (9223372036854775807 : Int64))), .second, .val (.long (q2 &&& (9223372036854775807 : Int64))), .second, .unset, .unset] [(.long (q2 &&& (9223372036854775807 : Int64))), (.long (q1 &&& (9223372036854775807 : Int64))), (.ref b8), (.ref b8)])) _
        refine st9.trans ?_
        show Steps p.tables e below (T9.setTop (mkF m 47 #[.val (.long q1), .second, .val (.long q2), .second, .val (.int p3), .val (.long (q1 &&& (9223372036854775807 : Int64))), .second, .val (.long (q2 &&& (9223372036854775807 : Int64))), .second, .unset, .unset] [(.ref b8)])) _
        refine XS.astore X9.here hx rfl (hb hby at_47) rfl rfl (l' := #[.val (.long q1), .second, .val (.long q2), .second, .val (.int p3), .val (.long (q1 &&& (9223372036854775807 : Int64))), .second, .val (.long (q2 &&& (9223372036854775807 : Int64))), .second, .val (.ref b8), .unset]) rfl ?_
        show Steps p.tables e below (T9.setTop (mkF m 49 #[.val (.long q1), .second, .val (.long q2), .second, .val (.int p3), .val (.long (q1 &&& (9223372036854775807 : Int64))), .second, .val (.long (q2 &&& (9223372036854775807 : Int64))), .second, .val (.ref b8), .unset] [])) _
        refine XS.lload X9.here hx rfl (hb hby at_49) rfl ?_
        show Steps p.tables e below (T9.setTop (mkF m 51 #[.val (.long q1), .second, .val (.long q2), .second, .val (.int p3), .val (.long (q1 &&& (9223372036854775807 : Int64))), .second, .val (.long (q2 &&& (9223372036854775807 : Int64))), .second, .val (.ref b8), .unset] [(.long (q1 &&& (9223372036854775807 : Int64)))])) _
        refine XS.lload X9.here hx rfl (hb hby at_51) rfl ?_
        show Steps p.tables e below (T9.setTop (mkF m 53 #[.val (.long q1), .second, .val (.long q2), .second, .val (.int p3), .val (.long (q1 &&& (9223372036854775807 : Int64))), .second, .val (.long (q2 &&& (9223372036854775807 : Int64))), .second, .val (.ref b8), .unset] [(.long (q2 &&& (9223372036854775807 : Int64))), (.long (q1 &&& (9223372036854775807 : Int64)))])) _
        refine XS.lor X9.here hx rfl (hb hby at_53) rfl ?_
        show Steps p.tables e below (T9.setTop (mkF m 54 #[.val (.long q1), .second, .val (.long q2), .second, .val (.int p3), .val (.long (q1 &&& (9223372036854775807 : Int64))), .second, .val (.long (q2 &&& (9223372036854775807 : Int64))), .second, .val (.ref b8), .unset] [(.long ((q1 &&& (9223372036854775807 : Int64)) ||| (q2 &&& (9223372036854775807 : Int64))))])) _
        refine XS.lconst X9.here hx rfl (hb hby at_54) ?_
        show Steps p.tables e below (T9.setTop (mkF m 55 #[.val (.long q1), .second, .val (.long q2), .second, .val (.int p3), .val (.long (q1 &&& (9223372036854775807 : Int64))), .second, .val (.long (q2 &&& (9223372036854775807 : Int64))), .second, .val (.ref b8), .unset] [(.long (0 : Int64)), (.long ((q1 &&& (9223372036854775807 : Int64)) ||| (q2 &&& (9223372036854775807 : Int64))))])) _
        refine XS.lcmp X9.here hx rfl (hb hby at_55) rfl ?_
        show Steps p.tables e below (T9.setTop (mkF m 56 #[.val (.long q1), .second, .val (.long q2), .second, .val (.int p3), .val (.long (q1 &&& (9223372036854775807 : Int64))), .second, .val (.long (q2 &&& (9223372036854775807 : Int64))), .second, .val (.ref b8), .unset] [(.int (lcmpW ((q1 &&& (9223372036854775807 : Int64)) ||| (q2 &&& (9223372036854775807 : Int64))) (0 : Int64)))])) _
        by_cases hc11 : (lcmpW ((q1 &&& (9223372036854775807 : Int64)) ||| (q2 &&& (9223372036854775807 : Int64))) (0 : Int64)) = (0 : Int32)
        · rw [if_pos hc11] at k
          refine XS.ifYes X9.here hx rfl (pc0 := 56) (pc' := 63) rfl (hb hby at_56) rfl ((if0 _ _).trans (teq hc11).1) (by decide) (by decide) ?_
          show Steps p.tables e below (T9.setTop (mkF m 63 #[.val (.long q1), .second, .val (.long q2), .second, .val (.int p3), .val (.long (q1 &&& (9223372036854775807 : Int64))), .second, .val (.long (q2 &&& (9223372036854775807 : Int64))), .second, .val (.ref b8), .unset] [])) _
          refine XS.iconst X9.here hx rfl (hb hby at_63) ?_
          exact k
        · rw [if_neg hc11] at k
          refine XS.ifNo X9.here hx rfl (hb hby at_56) rfl ((if0 _ _).trans (feq hc11).1) ?_
          show Steps p.tables e below (T9.setTop (mkF m 59 #[.val (.long q1), .second, .val (.long q2), .second, .val (.int p3), .val (.long (q1 &&& (9223372036854775807 : Int64))), .second, .val (.long (q2 &&& (9223372036854775807 : Int64))), .second, .val (.ref b8), .unset] [])) _
          refine XS.iconst X9.here hx rfl (hb hby at_59) ?_
          show Steps p.tables e below (T9.setTop (mkF m 60 #[.val (.long q1), .second, .val (.long q2), .second, .val (.int p3), .val (.long (q1 &&& (9223372036854775807 : Int64))), .second, .val (.long (q2 &&& (9223372036854775807 : Int64))), .second, .val (.ref b8), .unset] [(.int (1 : Int32))])) _
          refine XS.goto X9.here hx rfl (pc0 := 60) (pc' := 64) rfl (hb hby at_60) (by decide) (by decide) ?_
          exact k
      obtain ⟨cq13, kq13, q13a, q13b, q13c⟩ := isOf hZ rfl A9
      obtain ⟨_, _, ⟨T13, L13, k13, n13⟩, -, X13, ⟨Lc13, hQ13, l13, y13, z13⟩, st13⟩ := X9.virtualBack hx (y := (⟨"com/example/labwire/labwire/store/LeftOut", "any", "()Z"⟩ : MethodName)) (z := (⟨"com/example/labwire/labwire/store/LeftOut", "any", "()Z"⟩ : MethodName)) hown (mvT hZ (hw _ (List.mem_of_getElem? (i := 19) rfl))) (mvT hZ (hw _ (List.mem_of_getElem? (i := 20) rfl))) (notFace_of_selects (args := #[]) (mvT hZ (hw _ (List.mem_of_getElem? (i := 22) rfl)))) (mvT hZ (hw _ (List.mem_of_getElem? (i := 22) rfl))) (mvT hZ (hw _ (List.mem_of_getElem? (i := 21) rfl))) (by decide) (backOf (W := 0) (rm4 l Z a0 hw [] b8 (q1 &&& (9223372036854775807 : Int64)) (q2 &&& (9223372036854775807 : Int64)) T9.heap n0 Z9 G9_observations G9_notes) hZ (hw _ (List.mem_of_getElem? (i := 23) rfl)) (hw _ (List.mem_of_getElem? (i := 3) rfl)) (by decide) (by decide)) q13a q13c (g := (mkF m 68 #[.val (.long q1), .second, .val (.long q2), .second, .val (.int p3), .val (.long (q1 &&& (9223372036854775807 : Int64))), .second, .val (.long (q2 &&& (9223372036854775807 : Int64))), .second, .val (.ref b8), .val (.int (if (lcmpW ((q1 &&& (9223372036854775807 : Int64)) ||| (q2 &&& (9223372036854775807 : Int64))) (0 : Int64)) = (0 : Int32) then (0 : Int32) else (1 : Int32)))] [(.ref b8)])) rfl (by rw [hml]; rfl) (Steps.refl _) (argsL := []) (rest := []) (lenOf pd_0_1 rfl) rfl (by show 2 * 0 + _ ≤ _; exact Nat.le_of_eq rfl) (hb hby at_68) (fun _ _ => ⟨rfl, rfl, (by decide : 1 + 0 ≤ _), (by decide : 2 + 0 ≤ _)⟩)
      dsimp only [Pt.U, Pt.locs, Pt.cells, Pt.slots] at X13 l13 y13 z13 st13 hQ13
      subst l13 y13 z13
      obtain ⟨rfl, N13q, e13⟩ := hQ13
      have N13 := Fr.app N9 N13q
      have f14 := (own_staKeep (Sta.ext E8 S_NONE) K9 (allS (fun c q => by obtain ⟨c', _, q', -, -, q4, -⟩ := A8; cases q'.symm.trans q; exact q4) all0))
      obtain ⟨T15, X15, e15, st15⟩ := getS2 X13 hx hZ hown (host := "") (Or.inl (hw _ (List.mem_of_getElem? (i := 24) rfl))) Via.refl e13 f14 (g := (mkF m 78 #[.val (.long q1), .second, .val (.long q2), .second, .val (.int p3), .val (.long (q1 &&& (9223372036854775807 : Int64))), .second, .val (.long (q2 &&& (9223372036854775807 : Int64))), .second, .val (.ref b8), .val (.int (if (lcmpW ((q1 &&& (9223372036854775807 : Int64)) ||| (q2 &&& (9223372036854775807 : Int64))) (0 : Int64)) = (0 : Int32) then (0 : Int32) else (1 : Int32)))] [])) rfl (hb hby at_78)
      have f17 := (Exa.keep (Exa.ext E8 E_s_NONE) K9)
      obtain ⟨cq16, kq16, q16a, q16b, q16c⟩ := isOf hZ e15 f17
      have f18 := (Fld.keep (Fld.ext E8 F_observations_s_NONE) K9 (ninS (Nat.ne_of_lt (Nat.lt_of_lt_of_le E_s_NONE.lt sz_b8)) nin0))
      have f19 := (Fld.keep (Fld.ext E8 F_notes_s_NONE) K9 (ninS (Nat.ne_of_lt (Nat.lt_of_lt_of_le E_s_NONE.lt sz_b8)) nin0))
      obtain ⟨_, _, ⟨T16, L16, k16, n16⟩, -, X16, ⟨Lc16, hQ16, l16, y16, z16⟩, st16⟩ := X15.virtualBack hx (y := (⟨"com/example/labwire/labwire/store/LeftOut", "any", "()Z"⟩ : MethodName)) (z := (⟨"com/example/labwire/labwire/store/LeftOut", "any", "()Z"⟩ : MethodName)) hown (mvT hZ (hw _ (List.mem_of_getElem? (i := 19) rfl))) (mvT hZ (hw _ (List.mem_of_getElem? (i := 20) rfl))) (notFace_of_selects (args := #[]) (mvT hZ (hw _ (List.mem_of_getElem? (i := 22) rfl)))) (mvT hZ (hw _ (List.mem_of_getElem? (i := 22) rfl))) (mvT hZ (hw _ (List.mem_of_getElem? (i := 21) rfl))) (by decide) (backOf (W := 0) (rm4 l Z a0 hw [] s_NONE (0 : Int64) (0 : Int64) T9.heap n0 Z9 f18 f19) hZ (hw _ (List.mem_of_getElem? (i := 23) rfl)) (hw _ (List.mem_of_getElem? (i := 3) rfl)) (by decide) (by decide)) q16a q16c (g := (mkF m 81 #[.val (.long q1), .second, .val (.long q2), .second, .val (.int p3), .val (.long (q1 &&& (9223372036854775807 : Int64))), .second, .val (.long (q2 &&& (9223372036854775807 : Int64))), .second, .val (.ref b8), .val (.int (if (lcmpW ((q1 &&& (9223372036854775807 : Int64)) ||| (q2 &&& (9223372036854775807 : Int64))) (0 : Int64)) = (0 : Int32) then (0 : Int32) else (1 : Int32)))] [(.ref s_NONE)])) rfl (by rw [hml]; rfl) (Steps.refl _) (argsL := []) (rest := []) (lenOf pd_0_1 rfl) rfl (by show 2 * 0 + _ ≤ _; exact Nat.le_of_eq rfl) (hb hby at_81) (fun _ _ => ⟨rfl, e15, (by decide : 1 + 0 ≤ _), (by decide : 2 + 0 ≤ _)⟩)
      dsimp only [Pt.U, Pt.locs, Pt.cells, Pt.slots] at X16 l16 y16 z16 st16 hQ16
      subst l16 y16 z16
      obtain ⟨rfl, N16q, e16⟩ := hQ16
      have N16 := Fr.app N13 N16q
      obtain ⟨fs, hr, hrun, hended, hW, hsame⟩ := X16.leave (v := some (.int (1 : Int32))) (fun h => by rw [Bd.returns] at h; cases h)
      refine ⟨_, _, pr10 _ ?_, hrun, hended, _, _, rfl, ?_, ⟨_, rfl⟩, hW, hsame.mono (by decide) (by decide)⟩
      · show Steps p.tables e below (T9.setTop (mkF m 64 #[.val (.long q1), .second, .val (.long q2), .second, .val (.int p3), .val (.long (q1 &&& (9223372036854775807 : Int64))), .second, .val (.long (q2 &&& (9223372036854775807 : Int64))), .second, .val (.ref b8), .unset] [(.int (if (lcmpW ((q1 &&& (9223372036854775807 : Int64)) ||| (q2 &&& (9223372036854775807 : Int64))) (0 : Int64)) = (0 : Int32) then (0 : Int32) else (1 : Int32)))])) _
        refine XS.istore X9.here hx rfl (hb hby at_64) rfl (l' := #[.val (.long q1), .second, .val (.long q2), .second, .val (.int p3), .val (.long (q1 &&& (9223372036854775807 : Int64))), .second, .val (.long (q2 &&& (9223372036854775807 : Int64))), .second, .val (.ref b8), .val (.int (if (lcmpW ((q1 &&& (9223372036854775807 : Int64)) ||| (q2 &&& (9223372036854775807 : Int64))) (0 : Int64)) = (0 : Int32) then (0 : Int32) else (1 : Int32)))]) rfl ?_
        show Steps p.tables e below (T9.setTop (mkF m 66 #[.val (.long q1), .second, .val (.long q2), .second, .val (.int p3), .val (.long (q1 &&& (9223372036854775807 : Int64))), .second, .val (.long (q2 &&& (9223372036854775807 : Int64))), .second, .val (.ref b8), .val (.int (if (lcmpW ((q1 &&& (9223372036854775807 : Int64)) ||| (q2 &&& (9223372036854775807 : Int64))) (0 : Int64)) = (0 : Int32) then (0 : Int32) else (1 : Int32)))] [])) _
        refine XS.aload X9.here hx rfl (hb hby at_66) rfl rfl ?_
        show Steps p.tables e below (T9.setTop (mkF m 68 #[.val (.long q1), .second, .val (.long q2), .second, .val (.int p3), .val (.long (q1 &&& (9223372036854775807 : Int64))), .second, .val (.long (q2 &&& (9223372036854775807 : Int64))), .second, .val (.ref b8), .val (.int (if (lcmpW ((q1 &&& (9223372036854775807 : Int64)) ||| (q2 &&& (9223372036854775807 : Int64))) (0 : Int64)) = (0 : Int32) then (0 : Int32) else (1 : Int32)))] [(.ref b8)])) _
        refine st13.trans ?_
        show Steps p.tables e below (T13.setTop (mkF m 71 #[.val (.long q1), .second, .val (.long q2), .second, .val (.int p3), .val (.long (q1 &&& (9223372036854775807 : Int64))), .second, .val (.long (q2 &&& (9223372036854775807 : Int64))), .second, .val (.ref b8), .val (.int (if (lcmpW ((q1 &&& (9223372036854775807 : Int64)) ||| (q2 &&& (9223372036854775807 : Int64))) (0 : Int64)) = (0 : Int32) then (0 : Int32) else (1 : Int32)))] [(.int (own_f4 (q1 &&& (9223372036854775807 : Int64)) (q2 &&& (9223372036854775807 : Int64))))])) _
        refine XS.iload X13.here hx rfl (hb hby at_71) rfl ?_
        show Steps p.tables e below (T13.setTop (mkF m 73 #[.val (.long q1), .second, .val (.long q2), .second, .val (.int p3), .val (.long (q1 &&& (9223372036854775807 : Int64))), .second, .val (.long (q2 &&& (9223372036854775807 : Int64))), .second, .val (.ref b8), .val (.int (if (lcmpW ((q1 &&& (9223372036854775807 : Int64)) ||| (q2 &&& (9223372036854775807 : Int64))) (0 : Int64)) = (0 : Int32) then (0 : Int32) else (1 : Int32)))] [(.int (if (lcmpW ((q1 &&& (9223372036854775807 : Int64)) ||| (q2 &&& (9223372036854775807 : Int64))) (0 : Int64)) = (0 : Int32) then (0 : Int32) else (1 : Int32))), (.int (own_f4 (q1 &&& (9223372036854775807 : Int64)) (q2 &&& (9223372036854775807 : Int64))))])) _
        refine XS.icmpYes X13.here hx rfl (pc0 := 73) (pc' := 78) rfl (hb hby at_73) rfl (teq (hq73_1 hc4 hc6)).1 (by decide) (by decide) ?_
        show Steps p.tables e below (T13.setTop (mkF m 78 #[.val (.long q1), .second, .val (.long q2), .second, .val (.int p3), .val (.long (q1 &&& (9223372036854775807 : Int64))), .second, .val (.long (q2 &&& (9223372036854775807 : Int64))), .second, .val (.ref b8), .val (.int (if (lcmpW ((q1 &&& (9223372036854775807 : Int64)) ||| (q2 &&& (9223372036854775807 : Int64))) (0 : Int64)) = (0 : Int32) then (0 : Int32) else (1 : Int32)))] [])) _
        refine st15 _ ?_
        show Steps p.tables e below (T15.setTop (mkF m 81 #[.val (.long q1), .second, .val (.long q2), .second, .val (.int p3), .val (.long (q1 &&& (9223372036854775807 : Int64))), .second, .val (.long (q2 &&& (9223372036854775807 : Int64))), .second, .val (.ref b8), .val (.int (if (lcmpW ((q1 &&& (9223372036854775807 : Int64)) ||| (q2 &&& (9223372036854775807 : Int64))) (0 : Int64)) = (0 : Int32) then (0 : Int32) else (1 : Int32)))] [(.ref s_NONE)])) _
        refine st16.trans ?_
        show Steps p.tables e below (T16.setTop (mkF m 84 #[.val (.long q1), .second, .val (.long q2), .second, .val (.int p3), .val (.long (q1 &&& (9223372036854775807 : Int64))), .second, .val (.long (q2 &&& (9223372036854775807 : Int64))), .second, .val (.ref b8), .val (.int (if (lcmpW ((q1 &&& (9223372036854775807 : Int64)) ||| (q2 &&& (9223372036854775807 : Int64))) (0 : Int64)) = (0 : Int32) then (0 : Int32) else (1 : Int32)))] [(.int (own_f4 (0 : Int64) (0 : Int64)))])) _
        refine XS.ifYes X16.here hx rfl (pc0 := 84) (pc' := 89) rfl (hb hby at_84) rfl ((if0 _ _).trans (teq (by decide : (own_f4 (0 : Int64) (0 : Int64)) = (0 : Int32))).1) (by decide) (by decide) ?_
        show Steps p.tables e below (T16.setTop (mkF m 89 #[.val (.long q1), .second, .val (.long q2), .second, .val (.int p3), .val (.long (q1 &&& (9223372036854775807 : Int64))), .second, .val (.long (q2 &&& (9223372036854775807 : Int64))), .second, .val (.ref b8), .val (.int (if (lcmpW ((q1 &&& (9223372036854775807 : Int64)) ||| (q2 &&& (9223372036854775807 : Int64))) (0 : Int64)) = (0 : Int32) then (0 : Int32) else (1 : Int32)))] [])) _
        refine XS.iconst X16.here hx rfl (hb hby at_89) ?_
        show Steps p.tables e below (T16.setTop (mkF m 90 #[.val (.long q1), .second, .val (.long q2), .second, .val (.int p3), .val (.long (q1 &&& (9223372036854775807 : Int64))), .second, .val (.long (q2 &&& (9223372036854775807 : Int64))), .second, .val (.ref b8), .val (.int (if (lcmpW ((q1 &&& (9223372036854775807 : Int64)) ||| (q2 &&& (9223372036854775807 : Int64))) (0 : Int64)) = (0 : Int32) then (0 : Int32) else (1 : Int32)))] [(.int (1 : Int32))])) _
        exact retN X16 hx (t := .boolean) Bd.returns (by simp) (hb hby at_90) hr
      · show Q0 Z q1 q2 p3 s_NONE h0 n0 _ T16.heap _
        rw [e16]
        exact ⟨rfl, N16⟩
    · obtain ⟨T20, h20, X20, e20, E20, A20, D20, -, st20⟩ := newO X0 hx hZ hown (hw _ (List.mem_of_getElem? (i := 1) rfl)) (hw _ (List.mem_of_getElem? (i := 2) rfl)) (hw _ (List.mem_of_getElem? (i := 3) rfl)) e0 (g := (mkF m 36 #[.val (.long q1), .second, .val (.long q2), .second, .val (.int p3), .val (.long (q1 &&& (9223372036854775807 : Int64))), .second, .val (.long (0 : Int64)), .second, .unset, .unset] [])) rfl (hb hby at_36) (by decide) (by decide)
      obtain ⟨b20, g20⟩ : ∃ z, z = h0.size := ⟨_, rfl⟩
      rw [← g20] at A20 D20 st20
      have g_b20 : n0 ≤ b20 := Nat.le_trans Z0 (Nat.le_of_eq g20.symm)
      have sz_b20 : h0.size ≤ b20 := Nat.le_trans (Keep.refl h0 []).1 (Nat.le_of_eq g20.symm)
      have Z20 : n0 ≤ h20.size := Nat.le_trans Z0 E20.1
      have KK20 := (Keep.ext (Keep.refl h0 []) E20)
      have F20_observations : Fld Z h20 b20 "com/example/labwire/labwire/store/LeftOut" "observations" "J" (.long (0 : Int64)) := D20 (Or.inr (hw _ (List.mem_of_getElem? (i := 16) rfl))) (ty := .long) (by decide)
      have F20_notes : Fld Z h20 b20 "com/example/labwire/labwire/store/LeftOut" "notes" "J" (.long (0 : Int64)) := D20 (Or.inr (hw _ (List.mem_of_getElem? (i := 18) rfl))) (ty := .long) (by decide)
      obtain ⟨_, _, ⟨T21, L21, k21, n21⟩, -, X21, ⟨Lc21, hQ21, l21, y21, z21⟩, st21⟩ := X20.specialBack hx (y := (⟨"com/example/labwire/labwire/store/LeftOut", "<init>", "(JJ)V"⟩ : MethodName)) rfl hown (mvT hZ (hw _ (List.mem_of_getElem? (i := 4) rfl))) (mvT hZ (hw _ (List.mem_of_getElem? (i := 5) rfl))) (mvT hZ (hw _ (List.mem_of_getElem? (i := 6) rfl))) (by decide) (backOf (W := 1) (rm1 l Z a0 hw [] b20 (q1 &&& (9223372036854775807 : Int64)) (0 : Int64) (.long (0 : Int64)) (.long (0 : Int64)) h20 n0 Z20 g_b20 A20 F20_observations F20_notes) hZ (hw _ (List.mem_of_getElem? (i := 6) rfl)) (hw _ (List.mem_of_getElem? (i := 3) rfl)) (by decide) (by decide)) (g := (mkF m 44 #[.val (.long q1), .second, .val (.long q2), .second, .val (.int p3), .val (.long (q1 &&& (9223372036854775807 : Int64))), .second, .val (.long (0 : Int64)), .second, .unset, .unset] [(.long (0 : Int64)), (.long (q1 &&& (9223372036854775807 : Int64))), (.ref b20), (.ref b20)])) rfl (by rw [hml]; rfl) (Steps.refl _) (a := b20) (argsL := [(.long (q1 &&& (9223372036854775807 : Int64))), (.long (0 : Int64))]) (rest := [(.ref b20)]) (lenOf pd_0_0 rfl) rfl (by show 2 * 0 + _ ≤ _; exact Nat.le_of_eq rfl) (hb hby at_44) (fun _ _ => ⟨rfl, e20, (by decide : 1 + 0 ≤ _), (by decide : 2 + 0 ≤ _)⟩)
      dsimp only [Pt.U, Pt.locs, Pt.cells, Pt.slots] at X21 l21 y21 z21 st21 hQ21
      subst l21 y21 z21
      obtain ⟨rfl, N21q, K21, A21, G21_observations, G21_notes⟩ := hQ21
      have N21 := Fr.app N0 N21q
      have Z21 : n0 ≤ T21.heap.size := Nat.le_trans Z20 K21.1
      have KK21 := Keep.trans KK20 K21 (allS (Or.inr sz_b20) all0)
      have pr22 : ∀ t, Steps p.tables e below (T21.setTop (mkF m 64 #[.val (.long q1), .second, .val (.long q2), .second, .val (.int p3), .val (.long (q1 &&& (9223372036854775807 : Int64))), .second, .val (.long (0 : Int64)), .second, .val (.ref b20), .unset] [(.int (if (lcmpW ((q1 &&& (9223372036854775807 : Int64)) ||| (0 : Int64)) (0 : Int64)) = (0 : Int32) then (0 : Int32) else (1 : Int32)))])) t → Steps p.tables e below (s₁.setTop (entryFrame m #[(.long q1), (.long q2), (.int p3)] maxLocals)) t := by
        intro t k
        refine pr7 t ?_
        show Steps p.tables e below (s₁.setTop (mkF m 22 #[.val (.long q1), .second, .val (.long q2), .second, .val (.int p3), .val (.long (q1 &&& (9223372036854775807 : Int64))), .second, .unset, .unset, .unset, .unset] [(.int (p3 &&& (2 : Int32)))])) _
        refine XS.ifNo X0.here hx rfl (hb hby at_22) rfl ((if0 _ _).trans (feq hc6).1) ?_
        show Steps p.tables e below (s₁.setTop (mkF m 25 #[.val (.long q1), .second, .val (.long q2), .second, .val (.int p3), .val (.long (q1 &&& (9223372036854775807 : Int64))), .second, .unset, .unset, .unset, .unset] [])) _
        refine XS.lconst X0.here hx rfl (hb hby at_25) ?_
        show Steps p.tables e below (s₁.setTop (mkF m 26 #[.val (.long q1), .second, .val (.long q2), .second, .val (.int p3), .val (.long (q1 &&& (9223372036854775807 : Int64))), .second, .unset, .unset, .unset, .unset] [(.long (0 : Int64))])) _
        refine XS.goto X0.here hx rfl (pc0 := 26) (pc' := 34) rfl (hb hby at_26) (by decide) (by decide) ?_
        show Steps p.tables e below (s₁.setTop (mkF m 34 #[.val (.long q1), .second, .val (.long q2), .second, .val (.int p3), .val (.long (q1 &&& (9223372036854775807 : Int64))), .second, .unset, .unset, .unset, .unset] [(.long (0 : Int64))])) _
        refine XS.lstore X0.here hx rfl (hb hby at_34) rfl (l' := #[.val (.long q1), .second, .val (.long q2), .second, .val (.int p3), .val (.long (q1 &&& (9223372036854775807 : Int64))), .second, .val (.long (0 : Int64)), .second, .unset, .unset]) rfl ?_
        show Steps p.tables e below (s₁.setTop (mkF m 36 #[.val (.long q1), .second, .val (.long q2), .second, .val (.int p3), .val (.long (q1 &&& (9223372036854775807 : Int64))), .second, .val (.long (0 : Int64)), .second, .unset, .unset] [])) _
        refine st20 _ ?_
        show Steps p.tables e below (T20.setTop (mkF m 39 #[.val (.long q1), .second, .val (.long q2), .second, .val (.int p3), .val (.long (q1 &&& (9223372036854775807 : Int64))), .second, .val (.long (0 : Int64)), .second, .unset, .unset] [(.ref b20)])) _
        refine XS.dup X20.here hx rfl (hb hby at_39) rfl rfl ?_
        show Steps p.tables e below (T20.setTop (mkF m 40 #[.val (.long q1), .second, .val (.long q2), .second, .val (.int p3), .val (.long (q1 &&& (9223372036854775807 : Int64))), .second, .val (.long (0 : Int64)), .second, .unset, .unset] [(.ref b20), (.ref b20)])) _
        refine XS.lload X20.here hx rfl (hb hby at_40) rfl ?_
        show Steps p.tables e below (T20.setTop (mkF m 42 #[.val (.long q1), .second, .val (.long q2), .second, .val (.int p3), .val (.long (q1 &&& (9223372036854775807 : Int64))), .second, .val (.long (0 : Int64)), .second, .unset, .unset] [(.long (q1 &&& (9223372036854775807 : Int64))), (.ref b20), (.ref b20)])) _
        refine XS.lload X20.here hx rfl (hb hby at_42) rfl ?_
        show Steps p.tables e below (T20.setTop (mkF m 44 #[.val (.long q1), .second, .val (.long q2), .second, .val (.int p3), .val (.long (q1 &&& (9223372036854775807 : Int64))), .second, .val (.long (0 : Int64)), .second, .unset, .unset] [(.long (0 : Int64)), (.long (q1 &&& (9223372036854775807 : Int64))), (.ref b20), (.ref b20)])) _
        refine st21.trans ?_
        show Steps p.tables e below (T21.setTop (mkF m 47 #[.val (.long q1), .second, .val (.long q2), .second, .val (.int p3), .val (.long (q1 &&& (9223372036854775807 : Int64))), .second, .val (.long (0 : Int64)), .second, .unset, .unset] [(.ref b20)])) _
        refine XS.astore X21.here hx rfl (hb hby at_47) rfl rfl (l' := #[.val (.long q1), .second, .val (.long q2), .second, .val (.int p3), .val (.long (q1 &&& (9223372036854775807 : Int64))), .second, .val (.long (0 : Int64)), .second, .val (.ref b20), .unset]) rfl ?_
        show Steps p.tables e below (T21.setTop (mkF m 49 #[.val (.long q1), .second, .val (.long q2), .second, .val (.int p3), .val (.long (q1 &&& (9223372036854775807 : Int64))), .second, .val (.long (0 : Int64)), .second, .val (.ref b20), .unset] [])) _
        refine XS.lload X21.here hx rfl (hb hby at_49) rfl ?_
        show Steps p.tables e below (T21.setTop (mkF m 51 #[.val (.long q1), .second, .val (.long q2), .second, .val (.int p3), .val (.long (q1 &&& (9223372036854775807 : Int64))), .second, .val (.long (0 : Int64)), .second, .val (.ref b20), .unset] [(.long (q1 &&& (9223372036854775807 : Int64)))])) _
        refine XS.lload X21.here hx rfl (hb hby at_51) rfl ?_
        show Steps p.tables e below (T21.setTop (mkF m 53 #[.val (.long q1), .second, .val (.long q2), .second, .val (.int p3), .val (.long (q1 &&& (9223372036854775807 : Int64))), .second, .val (.long (0 : Int64)), .second, .val (.ref b20), .unset] [(.long (0 : Int64)), (.long (q1 &&& (9223372036854775807 : Int64)))])) _
        refine XS.lor X21.here hx rfl (hb hby at_53) rfl ?_
        show Steps p.tables e below (T21.setTop (mkF m 54 #[.val (.long q1), .second, .val (.long q2), .second, .val (.int p3), .val (.long (q1 &&& (9223372036854775807 : Int64))), .second, .val (.long (0 : Int64)), .second, .val (.ref b20), .unset] [(.long ((q1 &&& (9223372036854775807 : Int64)) ||| (0 : Int64)))])) _
        refine XS.lconst X21.here hx rfl (hb hby at_54) ?_
        show Steps p.tables e below (T21.setTop (mkF m 55 #[.val (.long q1), .second, .val (.long q2), .second, .val (.int p3), .val (.long (q1 &&& (9223372036854775807 : Int64))), .second, .val (.long (0 : Int64)), .second, .val (.ref b20), .unset] [(.long (0 : Int64)), (.long ((q1 &&& (9223372036854775807 : Int64)) ||| (0 : Int64)))])) _
        refine XS.lcmp X21.here hx rfl (hb hby at_55) rfl ?_
        show Steps p.tables e below (T21.setTop (mkF m 56 #[.val (.long q1), .second, .val (.long q2), .second, .val (.int p3), .val (.long (q1 &&& (9223372036854775807 : Int64))), .second, .val (.long (0 : Int64)), .second, .val (.ref b20), .unset] [(.int (lcmpW ((q1 &&& (9223372036854775807 : Int64)) ||| (0 : Int64)) (0 : Int64)))])) _
        by_cases hc23 : (lcmpW ((q1 &&& (9223372036854775807 : Int64)) ||| (0 : Int64)) (0 : Int64)) = (0 : Int32)
        · rw [if_pos hc23] at k
          refine XS.ifYes X21.here hx rfl (pc0 := 56) (pc' := 63) rfl (hb hby at_56) rfl ((if0 _ _).trans (teq hc23).1) (by decide) (by decide) ?_
          show Steps p.tables e below (T21.setTop (mkF m 63 #[.val (.long q1), .second, .val (.long q2), .second, .val (.int p3), .val (.long (q1 &&& (9223372036854775807 : Int64))), .second, .val (.long (0 : Int64)), .second, .val (.ref b20), .unset] [])) _
          refine XS.iconst X21.here hx rfl (hb hby at_63) ?_
          exact k
        · rw [if_neg hc23] at k
          refine XS.ifNo X21.here hx rfl (hb hby at_56) rfl ((if0 _ _).trans (feq hc23).1) ?_
          show Steps p.tables e below (T21.setTop (mkF m 59 #[.val (.long q1), .second, .val (.long q2), .second, .val (.int p3), .val (.long (q1 &&& (9223372036854775807 : Int64))), .second, .val (.long (0 : Int64)), .second, .val (.ref b20), .unset] [])) _
          refine XS.iconst X21.here hx rfl (hb hby at_59) ?_
          show Steps p.tables e below (T21.setTop (mkF m 60 #[.val (.long q1), .second, .val (.long q2), .second, .val (.int p3), .val (.long (q1 &&& (9223372036854775807 : Int64))), .second, .val (.long (0 : Int64)), .second, .val (.ref b20), .unset] [(.int (1 : Int32))])) _
          refine XS.goto X21.here hx rfl (pc0 := 60) (pc' := 64) rfl (hb hby at_60) (by decide) (by decide) ?_
          exact k
      obtain ⟨cq25, kq25, q25a, q25b, q25c⟩ := isOf hZ rfl A21
      obtain ⟨_, _, ⟨T25, L25, k25, n25⟩, -, X25, ⟨Lc25, hQ25, l25, y25, z25⟩, st25⟩ := X21.virtualBack hx (y := (⟨"com/example/labwire/labwire/store/LeftOut", "any", "()Z"⟩ : MethodName)) (z := (⟨"com/example/labwire/labwire/store/LeftOut", "any", "()Z"⟩ : MethodName)) hown (mvT hZ (hw _ (List.mem_of_getElem? (i := 19) rfl))) (mvT hZ (hw _ (List.mem_of_getElem? (i := 20) rfl))) (notFace_of_selects (args := #[]) (mvT hZ (hw _ (List.mem_of_getElem? (i := 22) rfl)))) (mvT hZ (hw _ (List.mem_of_getElem? (i := 22) rfl))) (mvT hZ (hw _ (List.mem_of_getElem? (i := 21) rfl))) (by decide) (backOf (W := 0) (rm4 l Z a0 hw [] b20 (q1 &&& (9223372036854775807 : Int64)) (0 : Int64) T21.heap n0 Z21 G21_observations G21_notes) hZ (hw _ (List.mem_of_getElem? (i := 23) rfl)) (hw _ (List.mem_of_getElem? (i := 3) rfl)) (by decide) (by decide)) q25a q25c (g := (mkF m 68 #[.val (.long q1), .second, .val (.long q2), .second, .val (.int p3), .val (.long (q1 &&& (9223372036854775807 : Int64))), .second, .val (.long (0 : Int64)), .second, .val (.ref b20), .val (.int (if (lcmpW ((q1 &&& (9223372036854775807 : Int64)) ||| (0 : Int64)) (0 : Int64)) = (0 : Int32) then (0 : Int32) else (1 : Int32)))] [(.ref b20)])) rfl (by rw [hml]; rfl) (Steps.refl _) (argsL := []) (rest := []) (lenOf pd_0_1 rfl) rfl (by show 2 * 0 + _ ≤ _; exact Nat.le_of_eq rfl) (hb hby at_68) (fun _ _ => ⟨rfl, rfl, (by decide : 1 + 0 ≤ _), (by decide : 2 + 0 ≤ _)⟩)
      dsimp only [Pt.U, Pt.locs, Pt.cells, Pt.slots] at X25 l25 y25 z25 st25 hQ25
      subst l25 y25 z25
      obtain ⟨rfl, N25q, e25⟩ := hQ25
      have N25 := Fr.app N21 N25q
      have f26 := (own_staKeep (Sta.ext E20 S_NONE) K21 (allS (fun c q => by obtain ⟨c', _, q', -, -, q4, -⟩ := A20; cases q'.symm.trans q; exact q4) all0))
      obtain ⟨T27, X27, e27, st27⟩ := getS2 X25 hx hZ hown (host := "") (Or.inl (hw _ (List.mem_of_getElem? (i := 24) rfl))) Via.refl e25 f26 (g := (mkF m 78 #[.val (.long q1), .second, .val (.long q2), .second, .val (.int p3), .val (.long (q1 &&& (9223372036854775807 : Int64))), .second, .val (.long (0 : Int64)), .second, .val (.ref b20), .val (.int (if (lcmpW ((q1 &&& (9223372036854775807 : Int64)) ||| (0 : Int64)) (0 : Int64)) = (0 : Int32) then (0 : Int32) else (1 : Int32)))] [])) rfl (hb hby at_78)
      have f29 := (Exa.keep (Exa.ext E20 E_s_NONE) K21)
      obtain ⟨cq28, kq28, q28a, q28b, q28c⟩ := isOf hZ e27 f29
      have f30 := (Fld.keep (Fld.ext E20 F_observations_s_NONE) K21 (ninS (Nat.ne_of_lt (Nat.lt_of_lt_of_le E_s_NONE.lt sz_b20)) nin0))
      have f31 := (Fld.keep (Fld.ext E20 F_notes_s_NONE) K21 (ninS (Nat.ne_of_lt (Nat.lt_of_lt_of_le E_s_NONE.lt sz_b20)) nin0))
      obtain ⟨_, _, ⟨T28, L28, k28, n28⟩, -, X28, ⟨Lc28, hQ28, l28, y28, z28⟩, st28⟩ := X27.virtualBack hx (y := (⟨"com/example/labwire/labwire/store/LeftOut", "any", "()Z"⟩ : MethodName)) (z := (⟨"com/example/labwire/labwire/store/LeftOut", "any", "()Z"⟩ : MethodName)) hown (mvT hZ (hw _ (List.mem_of_getElem? (i := 19) rfl))) (mvT hZ (hw _ (List.mem_of_getElem? (i := 20) rfl))) (notFace_of_selects (args := #[]) (mvT hZ (hw _ (List.mem_of_getElem? (i := 22) rfl)))) (mvT hZ (hw _ (List.mem_of_getElem? (i := 22) rfl))) (mvT hZ (hw _ (List.mem_of_getElem? (i := 21) rfl))) (by decide) (backOf (W := 0) (rm4 l Z a0 hw [] s_NONE (0 : Int64) (0 : Int64) T21.heap n0 Z21 f30 f31) hZ (hw _ (List.mem_of_getElem? (i := 23) rfl)) (hw _ (List.mem_of_getElem? (i := 3) rfl)) (by decide) (by decide)) q28a q28c (g := (mkF m 81 #[.val (.long q1), .second, .val (.long q2), .second, .val (.int p3), .val (.long (q1 &&& (9223372036854775807 : Int64))), .second, .val (.long (0 : Int64)), .second, .val (.ref b20), .val (.int (if (lcmpW ((q1 &&& (9223372036854775807 : Int64)) ||| (0 : Int64)) (0 : Int64)) = (0 : Int32) then (0 : Int32) else (1 : Int32)))] [(.ref s_NONE)])) rfl (by rw [hml]; rfl) (Steps.refl _) (argsL := []) (rest := []) (lenOf pd_0_1 rfl) rfl (by show 2 * 0 + _ ≤ _; exact Nat.le_of_eq rfl) (hb hby at_81) (fun _ _ => ⟨rfl, e27, (by decide : 1 + 0 ≤ _), (by decide : 2 + 0 ≤ _)⟩)
      dsimp only [Pt.U, Pt.locs, Pt.cells, Pt.slots] at X28 l28 y28 z28 st28 hQ28
      subst l28 y28 z28
      obtain ⟨rfl, N28q, e28⟩ := hQ28
      have N28 := Fr.app N25 N28q
      obtain ⟨fs, hr, hrun, hended, hW, hsame⟩ := X28.leave (v := some (.int (1 : Int32))) (fun h => by rw [Bd.returns] at h; cases h)
      refine ⟨_, _, pr22 _ ?_, hrun, hended, _, _, rfl, ?_, ⟨_, rfl⟩, hW, hsame.mono (by decide) (by decide)⟩
      · show Steps p.tables e below (T21.setTop (mkF m 64 #[.val (.long q1), .second, .val (.long q2), .second, .val (.int p3), .val (.long (q1 &&& (9223372036854775807 : Int64))), .second, .val (.long (0 : Int64)), .second, .val (.ref b20), .unset] [(.int (if (lcmpW ((q1 &&& (9223372036854775807 : Int64)) ||| (0 : Int64)) (0 : Int64)) = (0 : Int32) then (0 : Int32) else (1 : Int32)))])) _
        refine XS.istore X21.here hx rfl (hb hby at_64) rfl (l' := #[.val (.long q1), .second, .val (.long q2), .second, .val (.int p3), .val (.long (q1 &&& (9223372036854775807 : Int64))), .second, .val (.long (0 : Int64)), .second, .val (.ref b20), .val (.int (if (lcmpW ((q1 &&& (9223372036854775807 : Int64)) ||| (0 : Int64)) (0 : Int64)) = (0 : Int32) then (0 : Int32) else (1 : Int32)))]) rfl ?_
        show Steps p.tables e below (T21.setTop (mkF m 66 #[.val (.long q1), .second, .val (.long q2), .second, .val (.int p3), .val (.long (q1 &&& (9223372036854775807 : Int64))), .second, .val (.long (0 : Int64)), .second, .val (.ref b20), .val (.int (if (lcmpW ((q1 &&& (9223372036854775807 : Int64)) ||| (0 : Int64)) (0 : Int64)) = (0 : Int32) then (0 : Int32) else (1 : Int32)))] [])) _
        refine XS.aload X21.here hx rfl (hb hby at_66) rfl rfl ?_
        show Steps p.tables e below (T21.setTop (mkF m 68 #[.val (.long q1), .second, .val (.long q2), .second, .val (.int p3), .val (.long (q1 &&& (9223372036854775807 : Int64))), .second, .val (.long (0 : Int64)), .second, .val (.ref b20), .val (.int (if (lcmpW ((q1 &&& (9223372036854775807 : Int64)) ||| (0 : Int64)) (0 : Int64)) = (0 : Int32) then (0 : Int32) else (1 : Int32)))] [(.ref b20)])) _
        refine st25.trans ?_
        show Steps p.tables e below (T25.setTop (mkF m 71 #[.val (.long q1), .second, .val (.long q2), .second, .val (.int p3), .val (.long (q1 &&& (9223372036854775807 : Int64))), .second, .val (.long (0 : Int64)), .second, .val (.ref b20), .val (.int (if (lcmpW ((q1 &&& (9223372036854775807 : Int64)) ||| (0 : Int64)) (0 : Int64)) = (0 : Int32) then (0 : Int32) else (1 : Int32)))] [(.int (own_f4 (q1 &&& (9223372036854775807 : Int64)) (0 : Int64)))])) _
        refine XS.iload X25.here hx rfl (hb hby at_71) rfl ?_
        show Steps p.tables e below (T25.setTop (mkF m 73 #[.val (.long q1), .second, .val (.long q2), .second, .val (.int p3), .val (.long (q1 &&& (9223372036854775807 : Int64))), .second, .val (.long (0 : Int64)), .second, .val (.ref b20), .val (.int (if (lcmpW ((q1 &&& (9223372036854775807 : Int64)) ||| (0 : Int64)) (0 : Int64)) = (0 : Int32) then (0 : Int32) else (1 : Int32)))] [(.int (if (lcmpW ((q1 &&& (9223372036854775807 : Int64)) ||| (0 : Int64)) (0 : Int64)) = (0 : Int32) then (0 : Int32) else (1 : Int32))), (.int (own_f4 (q1 &&& (9223372036854775807 : Int64)) (0 : Int64)))])) _
        refine XS.icmpYes X25.here hx rfl (pc0 := 73) (pc' := 78) rfl (hb hby at_73) rfl (teq (hq73_2 hc4 hc6)).1 (by decide) (by decide) ?_
        show Steps p.tables e below (T25.setTop (mkF m 78 #[.val (.long q1), .second, .val (.long q2), .second, .val (.int p3), .val (.long (q1 &&& (9223372036854775807 : Int64))), .second, .val (.long (0 : Int64)), .second, .val (.ref b20), .val (.int (if (lcmpW ((q1 &&& (9223372036854775807 : Int64)) ||| (0 : Int64)) (0 : Int64)) = (0 : Int32) then (0 : Int32) else (1 : Int32)))] [])) _
        refine st27 _ ?_
        show Steps p.tables e below (T27.setTop (mkF m 81 #[.val (.long q1), .second, .val (.long q2), .second, .val (.int p3), .val (.long (q1 &&& (9223372036854775807 : Int64))), .second, .val (.long (0 : Int64)), .second, .val (.ref b20), .val (.int (if (lcmpW ((q1 &&& (9223372036854775807 : Int64)) ||| (0 : Int64)) (0 : Int64)) = (0 : Int32) then (0 : Int32) else (1 : Int32)))] [(.ref s_NONE)])) _
        refine st28.trans ?_
        show Steps p.tables e below (T28.setTop (mkF m 84 #[.val (.long q1), .second, .val (.long q2), .second, .val (.int p3), .val (.long (q1 &&& (9223372036854775807 : Int64))), .second, .val (.long (0 : Int64)), .second, .val (.ref b20), .val (.int (if (lcmpW ((q1 &&& (9223372036854775807 : Int64)) ||| (0 : Int64)) (0 : Int64)) = (0 : Int32) then (0 : Int32) else (1 : Int32)))] [(.int (own_f4 (0 : Int64) (0 : Int64)))])) _
        refine XS.ifYes X28.here hx rfl (pc0 := 84) (pc' := 89) rfl (hb hby at_84) rfl ((if0 _ _).trans (teq (by decide : (own_f4 (0 : Int64) (0 : Int64)) = (0 : Int32))).1) (by decide) (by decide) ?_
        show Steps p.tables e below (T28.setTop (mkF m 89 #[.val (.long q1), .second, .val (.long q2), .second, .val (.int p3), .val (.long (q1 &&& (9223372036854775807 : Int64))), .second, .val (.long (0 : Int64)), .second, .val (.ref b20), .val (.int (if (lcmpW ((q1 &&& (9223372036854775807 : Int64)) ||| (0 : Int64)) (0 : Int64)) = (0 : Int32) then (0 : Int32) else (1 : Int32)))] [])) _
        refine XS.iconst X28.here hx rfl (hb hby at_89) ?_
        show Steps p.tables e below (T28.setTop (mkF m 90 #[.val (.long q1), .second, .val (.long q2), .second, .val (.int p3), .val (.long (q1 &&& (9223372036854775807 : Int64))), .second, .val (.long (0 : Int64)), .second, .val (.ref b20), .val (.int (if (lcmpW ((q1 &&& (9223372036854775807 : Int64)) ||| (0 : Int64)) (0 : Int64)) = (0 : Int32) then (0 : Int32) else (1 : Int32)))] [(.int (1 : Int32))])) _
        exact retN X28 hx (t := .boolean) Bd.returns (by simp) (hb hby at_90) hr
      · show Q0 Z q1 q2 p3 s_NONE h0 n0 _ T28.heap _
        rw [e28]
        exact ⟨rfl, N28⟩
  · have pr33 : ∀ t, Steps p.tables e below (s₁.setTop (mkF m 22 #[.val (.long q1), .second, .val (.long q2), .second, .val (.int p3), .val (.long (0 : Int64)), .second, .unset, .unset, .unset, .unset] [(.int (p3 &&& (2 : Int32)))])) t → Steps p.tables e below (s₁.setTop (entryFrame m #[(.long q1), (.long q2), (.int p3)] maxLocals)) t := by
      intro t k
      refine pr5 t ?_
      show Steps p.tables e below (s₁.setTop (mkF m 4 #[.val (.long q1), .second, .val (.long q2), .second, .val (.int p3), .unset, .unset, .unset, .unset, .unset, .unset] [(.int (p3 &&& (1 : Int32)))])) _
      refine XS.ifNo X0.here hx rfl (hb hby at_4) rfl ((if0 _ _).trans (feq hc4).1) ?_
      show Steps p.tables e below (s₁.setTop (mkF m 7 #[.val (.long q1), .second, .val (.long q2), .second, .val (.int p3), .unset, .unset, .unset, .unset, .unset, .unset] [])) _
      refine XS.lconst X0.here hx rfl (hb hby at_7) ?_
      show Steps p.tables e below (s₁.setTop (mkF m 8 #[.val (.long q1), .second, .val (.long q2), .second, .val (.int p3), .unset, .unset, .unset, .unset, .unset, .unset] [(.long (0 : Int64))])) _
      refine XS.goto X0.here hx rfl (pc0 := 8) (pc' := 16) rfl (hb hby at_8) (by decide) (by decide) ?_
      show Steps p.tables e below (s₁.setTop (mkF m 16 #[.val (.long q1), .second, .val (.long q2), .second, .val (.int p3), .unset, .unset, .unset, .unset, .unset, .unset] [(.long (0 : Int64))])) _
      refine XS.lstore X0.here hx rfl (hb hby at_16) rfl (l' := #[.val (.long q1), .second, .val (.long q2), .second, .val (.int p3), .val (.long (0 : Int64)), .second, .unset, .unset, .unset, .unset]) rfl ?_
      show Steps p.tables e below (s₁.setTop (mkF m 18 #[.val (.long q1), .second, .val (.long q2), .second, .val (.int p3), .val (.long (0 : Int64)), .second, .unset, .unset, .unset, .unset] [])) _
      refine XS.iload X0.here hx rfl (hb hby at_18) rfl ?_
      show Steps p.tables e below (s₁.setTop (mkF m 20 #[.val (.long q1), .second, .val (.long q2), .second, .val (.int p3), .val (.long (0 : Int64)), .second, .unset, .unset, .unset, .unset] [(.int p3)])) _
      refine XS.iconst X0.here hx rfl (hb hby at_20) ?_
      show Steps p.tables e below (s₁.setTop (mkF m 21 #[.val (.long q1), .second, .val (.long q2), .second, .val (.int p3), .val (.long (0 : Int64)), .second, .unset, .unset, .unset, .unset] [(.int (2 : Int32)), (.int p3)])) _
      refine XS.iand X0.here hx rfl (hb hby at_21) rfl ?_
      show Steps p.tables e below (s₁.setTop (mkF m 22 #[.val (.long q1), .second, .val (.long q2), .second, .val (.int p3), .val (.long (0 : Int64)), .second, .unset, .unset, .unset, .unset] [(.int (p3 &&& (2 : Int32)))])) _
      exact k
    by_cases hc32 : (p3 &&& (2 : Int32)) = (0 : Int32)
    · obtain ⟨T34, h34, X34, e34, E34, A34, D34, -, st34⟩ := newO X0 hx hZ hown (hw _ (List.mem_of_getElem? (i := 1) rfl)) (hw _ (List.mem_of_getElem? (i := 2) rfl)) (hw _ (List.mem_of_getElem? (i := 3) rfl)) e0 (g := (mkF m 36 #[.val (.long q1), .second, .val (.long q2), .second, .val (.int p3), .val (.long (0 : Int64)), .second, .val (.long (q2 &&& (9223372036854775807 : Int64))), .second, .unset, .unset] [])) rfl (hb hby at_36) (by decide) (by decide)
      obtain ⟨b34, g34⟩ : ∃ z, z = h0.size := ⟨_, rfl⟩
      rw [← g34] at A34 D34 st34
      have g_b34 : n0 ≤ b34 := Nat.le_trans Z0 (Nat.le_of_eq g34.symm)
      have sz_b34 : h0.size ≤ b34 := Nat.le_trans (Keep.refl h0 []).1 (Nat.le_of_eq g34.symm)
      have Z34 : n0 ≤ h34.size := Nat.le_trans Z0 E34.1
      have KK34 := (Keep.ext (Keep.refl h0 []) E34)
      have F34_observations : Fld Z h34 b34 "com/example/labwire/labwire/store/LeftOut" "observations" "J" (.long (0 : Int64)) := D34 (Or.inr (hw _ (List.mem_of_getElem? (i := 16) rfl))) (ty := .long) (by decide)
      have F34_notes : Fld Z h34 b34 "com/example/labwire/labwire/store/LeftOut" "notes" "J" (.long (0 : Int64)) := D34 (Or.inr (hw _ (List.mem_of_getElem? (i := 18) rfl))) (ty := .long) (by decide)
      obtain ⟨_, _, ⟨T35, L35, k35, n35⟩, -, X35, ⟨Lc35, hQ35, l35, y35, z35⟩, st35⟩ := X34.specialBack hx (y := (⟨"com/example/labwire/labwire/store/LeftOut", "<init>", "(JJ)V"⟩ : MethodName)) rfl hown (mvT hZ (hw _ (List.mem_of_getElem? (i := 4) rfl))) (mvT hZ (hw _ (List.mem_of_getElem? (i := 5) rfl))) (mvT hZ (hw _ (List.mem_of_getElem? (i := 6) rfl))) (by decide) (backOf (W := 1) (rm1 l Z a0 hw [] b34 (0 : Int64) (q2 &&& (9223372036854775807 : Int64)) (.long (0 : Int64)) (.long (0 : Int64)) h34 n0 Z34 g_b34 A34 F34_observations F34_notes) hZ (hw _ (List.mem_of_getElem? (i := 6) rfl)) (hw _ (List.mem_of_getElem? (i := 3) rfl)) (by decide) (by decide)) (g := (mkF m 44 #[.val (.long q1), .second, .val (.long q2), .second, .val (.int p3), .val (.long (0 : Int64)), .second, .val (.long (q2 &&& (9223372036854775807 : Int64))), .second, .unset, .unset] [(.long (q2 &&& (9223372036854775807 : Int64))), (.long (0 : Int64)), (.ref b34), (.ref b34)])) rfl (by rw [hml]; rfl) (Steps.refl _) (a := b34) (argsL := [(.long (0 : Int64)), (.long (q2 &&& (9223372036854775807 : Int64)))]) (rest := [(.ref b34)]) (lenOf pd_0_0 rfl) rfl (by show 2 * 0 + _ ≤ _; exact Nat.le_of_eq rfl) (hb hby at_44) (fun _ _ => ⟨rfl, e34, (by decide : 1 + 0 ≤ _), (by decide : 2 + 0 ≤ _)⟩)
      dsimp only [Pt.U, Pt.locs, Pt.cells, Pt.slots] at X35 l35 y35 z35 st35 hQ35
      subst l35 y35 z35
      obtain ⟨rfl, N35q, K35, A35, G35_observations, G35_notes⟩ := hQ35
      have N35 := Fr.app N0 N35q
      have Z35 : n0 ≤ T35.heap.size := Nat.le_trans Z34 K35.1
      have KK35 := Keep.trans KK34 K35 (allS (Or.inr sz_b34) all0)
      have pr36 : ∀ t, Steps p.tables e below (T35.setTop (mkF m 64 #[.val (.long q1), .second, .val (.long q2), .second, .val (.int p3), .val (.long (0 : Int64)), .second, .val (.long (q2 &&& (9223372036854775807 : Int64))), .second, .val (.ref b34), .unset] [(.int (if (lcmpW ((0 : Int64) ||| (q2 &&& (9223372036854775807 : Int64))) (0 : Int64)) = (0 : Int32) then (0 : Int32) else (1 : Int32)))])) t → Steps p.tables e below (s₁.setTop (entryFrame m #[(.long q1), (.long q2), (.int p3)] maxLocals)) t := by
        intro t k
        refine pr33 t ?_
        show Steps p.tables e below (s₁.setTop (mkF m 22 #[.val (.long q1), .second, .val (.long q2), .second, .val (.int p3), .val (.long (0 : Int64)), .second, .unset, .unset, .unset, .unset] [(.int (p3 &&& (2 : Int32)))])) _
        refine XS.ifYes X0.here hx rfl (pc0 := 22) (pc' := 29) rfl (hb hby at_22) rfl ((if0 _ _).trans (teq hc32).1) (by decide) (by decide) ?_
        show Steps p.tables e below (s₁.setTop (mkF m 29 #[.val (.long q1), .second, .val (.long q2), .second, .val (.int p3), .val (.long (0 : Int64)), .second, .unset, .unset, .unset, .unset] [])) _
        refine XS.lloadN X0.here hx rfl (hb hby at_29) rfl ?_
        show Steps p.tables e below (s₁.setTop (mkF m 30 #[.val (.long q1), .second, .val (.long q2), .second, .val (.int p3), .val (.long (0 : Int64)), .second, .unset, .unset, .unset, .unset] [(.long q2)])) _
        refine X0.ldc2Long hx hown (mvT hZ (hw _ (List.mem_of_getElem? (i := 0) rfl))) (g := (mkF m 30 #[.val (.long q1), .second, .val (.long q2), .second, .val (.int p3), .val (.long (0 : Int64)), .second, .unset, .unset, .unset, .unset] [(.long q2)])) rfl (hb hby at_30) _ ?_
        show Steps p.tables e below (s₁.setTop (mkF m 33 #[.val (.long q1), .second, .val (.long q2), .second, .val (.int p3), .val (.long (0 : Int64)), .second, .unset, .unset, .unset, .unset] [(.long (9223372036854775807 : Int64)), (.long q2)])) _
        refine XS.land X0.here hx rfl (hb hby at_33) rfl ?_
        show Steps p.tables e below (s₁.setTop (mkF m 34 #[.val (.long q1), .second, .val (.long q2), .second, .val (.int p3), .val (.long (0 : Int64)), .second, .unset, .unset, .unset, .unset] [(.long (q2 &&& (9223372036854775807 : Int64)))])) _
        refine XS.lstore X0.here hx rfl (hb hby at_34) rfl (l' := #[.val (.long q1), .second, .val (.long q2), .second, .val (.int p3), .val (.long (0 : Int64)), .second, .val (.long (q2 &&& (9223372036854775807 : Int64))), .second, .unset, .unset]) rfl ?_
        show Steps p.tables e below (s₁.setTop (mkF m 36 #[.val (.long q1), .second, .val (.long q2), .second, .val (.int p3), .val (.long (0 : Int64)), .second, .val (.long (q2 &&& (9223372036854775807 : Int64))), .second, .unset, .unset] [])) _
        refine st34 _ ?_
        show Steps p.tables e below (T34.setTop (mkF m 39 #[.val (.long q1), .second, .val (.long q2), .second, .val (.int p3), .val (.long (0 : Int64)), .second, .val (.long (q2 &&& (9223372036854775807 : Int64))), .second, .unset, .unset] [(.ref b34)])) _
        refine XS.dup X34.here hx rfl (hb hby at_39) rfl rfl ?_
        show Steps p.tables e below (T34.setTop (mkF m 40 #[.val (.long q1), .second, .val (.long q2), .second, .val (.int p3), .val (.long (0 : Int64)), .second, .val (.long (q2 &&& (9223372036854775807 : Int64))), .second, .unset, .unset] [(.ref b34), (.ref b34)])) _
        refine XS.lload X34.here hx rfl (hb hby at_40) rfl ?_
        show Steps p.tables e below (T34.setTop (mkF m 42 #[.val (.long q1), .second, .val (.long q2), .second, .val (.int p3), .val (.long (0 : Int64)), .second, .val (.long (q2 &&& (9223372036854775807 : Int64))), .second, .unset, .unset] [(.long (0 : Int64)), (.ref b34), (.ref b34)])) _
        refine XS.lload X34.here hx rfl (hb hby at_42) rfl ?_
        show Steps p.tables e below (T34.setTop (mkF m 44 #[.val (.long q1), .second, .val (.long q2), .second, .val (.int p3), .val (.long (0 : Int64)), .second, .val (.long (q2 &&& (9223372036854775807 : Int64))), .second, .unset, .unset] [(.long (q2 &&& (9223372036854775807 : Int64))), (.long (0 : Int64)), (.ref b34), (.ref b34)])) _
        refine st35.trans ?_
        show Steps p.tables e below (T35.setTop (mkF m 47 #[.val (.long q1), .second, .val (.long q2), .second, .val (.int p3), .val (.long (0 : Int64)), .second, .val (.long (q2 &&& (9223372036854775807 : Int64))), .second, .unset, .unset] [(.ref b34)])) _
        refine XS.astore X35.here hx rfl (hb hby at_47) rfl rfl (l' := #[.val (.long q1), .second, .val (.long q2), .second, .val (.int p3), .val (.long (0 : Int64)), .second, .val (.long (q2 &&& (9223372036854775807 : Int64))), .second, .val (.ref b34), .unset]) rfl ?_
        show Steps p.tables e below (T35.setTop (mkF m 49 #[.val (.long q1), .second, .val (.long q2), .second, .val (.int p3), .val (.long (0 : Int64)), .second, .val (.long (q2 &&& (9223372036854775807 : Int64))), .second, .val (.ref b34), .unset] [])) _
        refine XS.lload X35.here hx rfl (hb hby at_49) rfl ?_
        show Steps p.tables e below (T35.setTop (mkF m 51 #[.val (.long q1), .second, .val (.long q2), .second, .val (.int p3), .val (.long (0 : Int64)), .second, .val (.long (q2 &&& (9223372036854775807 : Int64))), .second, .val (.ref b34), .unset] [(.long (0 : Int64))])) _
        refine XS.lload X35.here hx rfl (hb hby at_51) rfl ?_
        show Steps p.tables e below (T35.setTop (mkF m 53 #[.val (.long q1), .second, .val (.long q2), .second, .val (.int p3), .val (.long (0 : Int64)), .second, .val (.long (q2 &&& (9223372036854775807 : Int64))), .second, .val (.ref b34), .unset] [(.long (q2 &&& (9223372036854775807 : Int64))), (.long (0 : Int64))])) _
        refine XS.lor X35.here hx rfl (hb hby at_53) rfl ?_
        show Steps p.tables e below (T35.setTop (mkF m 54 #[.val (.long q1), .second, .val (.long q2), .second, .val (.int p3), .val (.long (0 : Int64)), .second, .val (.long (q2 &&& (9223372036854775807 : Int64))), .second, .val (.ref b34), .unset] [(.long ((0 : Int64) ||| (q2 &&& (9223372036854775807 : Int64))))])) _
        refine XS.lconst X35.here hx rfl (hb hby at_54) ?_
        show Steps p.tables e below (T35.setTop (mkF m 55 #[.val (.long q1), .second, .val (.long q2), .second, .val (.int p3), .val (.long (0 : Int64)), .second, .val (.long (q2 &&& (9223372036854775807 : Int64))), .second, .val (.ref b34), .unset] [(.long (0 : Int64)), (.long ((0 : Int64) ||| (q2 &&& (9223372036854775807 : Int64))))])) _
        refine XS.lcmp X35.here hx rfl (hb hby at_55) rfl ?_
        show Steps p.tables e below (T35.setTop (mkF m 56 #[.val (.long q1), .second, .val (.long q2), .second, .val (.int p3), .val (.long (0 : Int64)), .second, .val (.long (q2 &&& (9223372036854775807 : Int64))), .second, .val (.ref b34), .unset] [(.int (lcmpW ((0 : Int64) ||| (q2 &&& (9223372036854775807 : Int64))) (0 : Int64)))])) _
        by_cases hc37 : (lcmpW ((0 : Int64) ||| (q2 &&& (9223372036854775807 : Int64))) (0 : Int64)) = (0 : Int32)
        · rw [if_pos hc37] at k
          refine XS.ifYes X35.here hx rfl (pc0 := 56) (pc' := 63) rfl (hb hby at_56) rfl ((if0 _ _).trans (teq hc37).1) (by decide) (by decide) ?_
          show Steps p.tables e below (T35.setTop (mkF m 63 #[.val (.long q1), .second, .val (.long q2), .second, .val (.int p3), .val (.long (0 : Int64)), .second, .val (.long (q2 &&& (9223372036854775807 : Int64))), .second, .val (.ref b34), .unset] [])) _
          refine XS.iconst X35.here hx rfl (hb hby at_63) ?_
          exact k
        · rw [if_neg hc37] at k
          refine XS.ifNo X35.here hx rfl (hb hby at_56) rfl ((if0 _ _).trans (feq hc37).1) ?_
          show Steps p.tables e below (T35.setTop (mkF m 59 #[.val (.long q1), .second, .val (.long q2), .second, .val (.int p3), .val (.long (0 : Int64)), .second, .val (.long (q2 &&& (9223372036854775807 : Int64))), .second, .val (.ref b34), .unset] [])) _
          refine XS.iconst X35.here hx rfl (hb hby at_59) ?_
          show Steps p.tables e below (T35.setTop (mkF m 60 #[.val (.long q1), .second, .val (.long q2), .second, .val (.int p3), .val (.long (0 : Int64)), .second, .val (.long (q2 &&& (9223372036854775807 : Int64))), .second, .val (.ref b34), .unset] [(.int (1 : Int32))])) _
          refine XS.goto X35.here hx rfl (pc0 := 60) (pc' := 64) rfl (hb hby at_60) (by decide) (by decide) ?_
          exact k
      obtain ⟨cq39, kq39, q39a, q39b, q39c⟩ := isOf hZ rfl A35
      obtain ⟨_, _, ⟨T39, L39, k39, n39⟩, -, X39, ⟨Lc39, hQ39, l39, y39, z39⟩, st39⟩ := X35.virtualBack hx (y := (⟨"com/example/labwire/labwire/store/LeftOut", "any", "()Z"⟩ : MethodName)) (z := (⟨"com/example/labwire/labwire/store/LeftOut", "any", "()Z"⟩ : MethodName)) hown (mvT hZ (hw _ (List.mem_of_getElem? (i := 19) rfl))) (mvT hZ (hw _ (List.mem_of_getElem? (i := 20) rfl))) (notFace_of_selects (args := #[]) (mvT hZ (hw _ (List.mem_of_getElem? (i := 22) rfl)))) (mvT hZ (hw _ (List.mem_of_getElem? (i := 22) rfl))) (mvT hZ (hw _ (List.mem_of_getElem? (i := 21) rfl))) (by decide) (backOf (W := 0) (rm4 l Z a0 hw [] b34 (0 : Int64) (q2 &&& (9223372036854775807 : Int64)) T35.heap n0 Z35 G35_observations G35_notes) hZ (hw _ (List.mem_of_getElem? (i := 23) rfl)) (hw _ (List.mem_of_getElem? (i := 3) rfl)) (by decide) (by decide)) q39a q39c (g := (mkF m 68 #[.val (.long q1), .second, .val (.long q2), .second, .val (.int p3), .val (.long (0 : Int64)), .second, .val (.long (q2 &&& (9223372036854775807 : Int64))), .second, .val (.ref b34), .val (.int (if (lcmpW ((0 : Int64) ||| (q2 &&& (9223372036854775807 : Int64))) (0 : Int64)) = (0 : Int32) then (0 : Int32) else (1 : Int32)))] [(.ref b34)])) rfl (by rw [hml]; rfl) (Steps.refl _) (argsL := []) (rest := []) (lenOf pd_0_1 rfl) rfl (by show 2 * 0 + _ ≤ _; exact Nat.le_of_eq rfl) (hb hby at_68) (fun _ _ => ⟨rfl, rfl, (by decide : 1 + 0 ≤ _), (by decide : 2 + 0 ≤ _)⟩)
      dsimp only [Pt.U, Pt.locs, Pt.cells, Pt.slots] at X39 l39 y39 z39 st39 hQ39
      subst l39 y39 z39
      obtain ⟨rfl, N39q, e39⟩ := hQ39
      have N39 := Fr.app N35 N39q
      have f40 := (own_staKeep (Sta.ext E34 S_NONE) K35 (allS (fun c q => by obtain ⟨c', _, q', -, -, q4, -⟩ := A34; cases q'.symm.trans q; exact q4) all0))
      obtain ⟨T41, X41, e41, st41⟩ := getS2 X39 hx hZ hown (host := "") (Or.inl (hw _ (List.mem_of_getElem? (i := 24) rfl))) Via.refl e39 f40 (g := (mkF m 78 #[.val (.long q1), .second, .val (.long q2), .second, .val (.int p3), .val (.long (0 : Int64)), .second, .val (.long (q2 &&& (9223372036854775807 : Int64))), .second, .val (.ref b34), .val (.int (if (lcmpW ((0 : Int64) ||| (q2 &&& (9223372036854775807 : Int64))) (0 : Int64)) = (0 : Int32) then (0 : Int32) else (1 : Int32)))] [])) rfl (hb hby at_78)
      have f43 := (Exa.keep (Exa.ext E34 E_s_NONE) K35)
      obtain ⟨cq42, kq42, q42a, q42b, q42c⟩ := isOf hZ e41 f43
      have f44 := (Fld.keep (Fld.ext E34 F_observations_s_NONE) K35 (ninS (Nat.ne_of_lt (Nat.lt_of_lt_of_le E_s_NONE.lt sz_b34)) nin0))
      have f45 := (Fld.keep (Fld.ext E34 F_notes_s_NONE) K35 (ninS (Nat.ne_of_lt (Nat.lt_of_lt_of_le E_s_NONE.lt sz_b34)) nin0))
      obtain ⟨_, _, ⟨T42, L42, k42, n42⟩, -, X42, ⟨Lc42, hQ42, l42, y42, z42⟩, st42⟩ := X41.virtualBack hx (y := (⟨"com/example/labwire/labwire/store/LeftOut", "any", "()Z"⟩ : MethodName)) (z := (⟨"com/example/labwire/labwire/store/LeftOut", "any", "()Z"⟩ : MethodName)) hown (mvT hZ (hw _ (List.mem_of_getElem? (i := 19) rfl))) (mvT hZ (hw _ (List.mem_of_getElem? (i := 20) rfl))) (notFace_of_selects (args := #[]) (mvT hZ (hw _ (List.mem_of_getElem? (i := 22) rfl)))) (mvT hZ (hw _ (List.mem_of_getElem? (i := 22) rfl))) (mvT hZ (hw _ (List.mem_of_getElem? (i := 21) rfl))) (by decide) (backOf (W := 0) (rm4 l Z a0 hw [] s_NONE (0 : Int64) (0 : Int64) T35.heap n0 Z35 f44 f45) hZ (hw _ (List.mem_of_getElem? (i := 23) rfl)) (hw _ (List.mem_of_getElem? (i := 3) rfl)) (by decide) (by decide)) q42a q42c (g := (mkF m 81 #[.val (.long q1), .second, .val (.long q2), .second, .val (.int p3), .val (.long (0 : Int64)), .second, .val (.long (q2 &&& (9223372036854775807 : Int64))), .second, .val (.ref b34), .val (.int (if (lcmpW ((0 : Int64) ||| (q2 &&& (9223372036854775807 : Int64))) (0 : Int64)) = (0 : Int32) then (0 : Int32) else (1 : Int32)))] [(.ref s_NONE)])) rfl (by rw [hml]; rfl) (Steps.refl _) (argsL := []) (rest := []) (lenOf pd_0_1 rfl) rfl (by show 2 * 0 + _ ≤ _; exact Nat.le_of_eq rfl) (hb hby at_81) (fun _ _ => ⟨rfl, e41, (by decide : 1 + 0 ≤ _), (by decide : 2 + 0 ≤ _)⟩)
      dsimp only [Pt.U, Pt.locs, Pt.cells, Pt.slots] at X42 l42 y42 z42 st42 hQ42
      subst l42 y42 z42
      obtain ⟨rfl, N42q, e42⟩ := hQ42
      have N42 := Fr.app N39 N42q
      obtain ⟨fs, hr, hrun, hended, hW, hsame⟩ := X42.leave (v := some (.int (1 : Int32))) (fun h => by rw [Bd.returns] at h; cases h)
      refine ⟨_, _, pr36 _ ?_, hrun, hended, _, _, rfl, ?_, ⟨_, rfl⟩, hW, hsame.mono (by decide) (by decide)⟩
      · show Steps p.tables e below (T35.setTop (mkF m 64 #[.val (.long q1), .second, .val (.long q2), .second, .val (.int p3), .val (.long (0 : Int64)), .second, .val (.long (q2 &&& (9223372036854775807 : Int64))), .second, .val (.ref b34), .unset] [(.int (if (lcmpW ((0 : Int64) ||| (q2 &&& (9223372036854775807 : Int64))) (0 : Int64)) = (0 : Int32) then (0 : Int32) else (1 : Int32)))])) _
        refine XS.istore X35.here hx rfl (hb hby at_64) rfl (l' := #[.val (.long q1), .second, .val (.long q2), .second, .val (.int p3), .val (.long (0 : Int64)), .second, .val (.long (q2 &&& (9223372036854775807 : Int64))), .second, .val (.ref b34), .val (.int (if (lcmpW ((0 : Int64) ||| (q2 &&& (9223372036854775807 : Int64))) (0 : Int64)) = (0 : Int32) then (0 : Int32) else (1 : Int32)))]) rfl ?_
        show Steps p.tables e below (T35.setTop (mkF m 66 #[.val (.long q1), .second, .val (.long q2), .second, .val (.int p3), .val (.long (0 : Int64)), .second, .val (.long (q2 &&& (9223372036854775807 : Int64))), .second, .val (.ref b34), .val (.int (if (lcmpW ((0 : Int64) ||| (q2 &&& (9223372036854775807 : Int64))) (0 : Int64)) = (0 : Int32) then (0 : Int32) else (1 : Int32)))] [])) _
        refine XS.aload X35.here hx rfl (hb hby at_66) rfl rfl ?_
        show Steps p.tables e below (T35.setTop (mkF m 68 #[.val (.long q1), .second, .val (.long q2), .second, .val (.int p3), .val (.long (0 : Int64)), .second, .val (.long (q2 &&& (9223372036854775807 : Int64))), .second, .val (.ref b34), .val (.int (if (lcmpW ((0 : Int64) ||| (q2 &&& (9223372036854775807 : Int64))) (0 : Int64)) = (0 : Int32) then (0 : Int32) else (1 : Int32)))] [(.ref b34)])) _
        refine st39.trans ?_
        show Steps p.tables e below (T39.setTop (mkF m 71 #[.val (.long q1), .second, .val (.long q2), .second, .val (.int p3), .val (.long (0 : Int64)), .second, .val (.long (q2 &&& (9223372036854775807 : Int64))), .second, .val (.ref b34), .val (.int (if (lcmpW ((0 : Int64) ||| (q2 &&& (9223372036854775807 : Int64))) (0 : Int64)) = (0 : Int32) then (0 : Int32) else (1 : Int32)))] [(.int (own_f4 (0 : Int64) (q2 &&& (9223372036854775807 : Int64))))])) _
        refine XS.iload X39.here hx rfl (hb hby at_71) rfl ?_
        show Steps p.tables e below (T39.setTop (mkF m 73 #[.val (.long q1), .second, .val (.long q2), .second, .val (.int p3), .val (.long (0 : Int64)), .second, .val (.long (q2 &&& (9223372036854775807 : Int64))), .second, .val (.ref b34), .val (.int (if (lcmpW ((0 : Int64) ||| (q2 &&& (9223372036854775807 : Int64))) (0 : Int64)) = (0 : Int32) then (0 : Int32) else (1 : Int32)))] [(.int (if (lcmpW ((0 : Int64) ||| (q2 &&& (9223372036854775807 : Int64))) (0 : Int64)) = (0 : Int32) then (0 : Int32) else (1 : Int32))), (.int (own_f4 (0 : Int64) (q2 &&& (9223372036854775807 : Int64))))])) _
        refine XS.icmpYes X39.here hx rfl (pc0 := 73) (pc' := 78) rfl (hb hby at_73) rfl (teq (hq73_3 hc4 hc32)).1 (by decide) (by decide) ?_
        show Steps p.tables e below (T39.setTop (mkF m 78 #[.val (.long q1), .second, .val (.long q2), .second, .val (.int p3), .val (.long (0 : Int64)), .second, .val (.long (q2 &&& (9223372036854775807 : Int64))), .second, .val (.ref b34), .val (.int (if (lcmpW ((0 : Int64) ||| (q2 &&& (9223372036854775807 : Int64))) (0 : Int64)) = (0 : Int32) then (0 : Int32) else (1 : Int32)))] [])) _
        refine st41 _ ?_
        show Steps p.tables e below (T41.setTop (mkF m 81 #[.val (.long q1), .second, .val (.long q2), .second, .val (.int p3), .val (.long (0 : Int64)), .second, .val (.long (q2 &&& (9223372036854775807 : Int64))), .second, .val (.ref b34), .val (.int (if (lcmpW ((0 : Int64) ||| (q2 &&& (9223372036854775807 : Int64))) (0 : Int64)) = (0 : Int32) then (0 : Int32) else (1 : Int32)))] [(.ref s_NONE)])) _
        refine st42.trans ?_
        show Steps p.tables e below (T42.setTop (mkF m 84 #[.val (.long q1), .second, .val (.long q2), .second, .val (.int p3), .val (.long (0 : Int64)), .second, .val (.long (q2 &&& (9223372036854775807 : Int64))), .second, .val (.ref b34), .val (.int (if (lcmpW ((0 : Int64) ||| (q2 &&& (9223372036854775807 : Int64))) (0 : Int64)) = (0 : Int32) then (0 : Int32) else (1 : Int32)))] [(.int (own_f4 (0 : Int64) (0 : Int64)))])) _
        refine XS.ifYes X42.here hx rfl (pc0 := 84) (pc' := 89) rfl (hb hby at_84) rfl ((if0 _ _).trans (teq (by decide : (own_f4 (0 : Int64) (0 : Int64)) = (0 : Int32))).1) (by decide) (by decide) ?_
        show Steps p.tables e below (T42.setTop (mkF m 89 #[.val (.long q1), .second, .val (.long q2), .second, .val (.int p3), .val (.long (0 : Int64)), .second, .val (.long (q2 &&& (9223372036854775807 : Int64))), .second, .val (.ref b34), .val (.int (if (lcmpW ((0 : Int64) ||| (q2 &&& (9223372036854775807 : Int64))) (0 : Int64)) = (0 : Int32) then (0 : Int32) else (1 : Int32)))] [])) _
        refine XS.iconst X42.here hx rfl (hb hby at_89) ?_
        show Steps p.tables e below (T42.setTop (mkF m 90 #[.val (.long q1), .second, .val (.long q2), .second, .val (.int p3), .val (.long (0 : Int64)), .second, .val (.long (q2 &&& (9223372036854775807 : Int64))), .second, .val (.ref b34), .val (.int (if (lcmpW ((0 : Int64) ||| (q2 &&& (9223372036854775807 : Int64))) (0 : Int64)) = (0 : Int32) then (0 : Int32) else (1 : Int32)))] [(.int (1 : Int32))])) _
        exact retN X42 hx (t := .boolean) Bd.returns (by simp) (hb hby at_90) hr
      · show Q0 Z q1 q2 p3 s_NONE h0 n0 _ T42.heap _
        rw [e42]
        exact ⟨rfl, N42⟩
    · obtain ⟨T46, h46, X46, e46, E46, A46, D46, -, st46⟩ := newO X0 hx hZ hown (hw _ (List.mem_of_getElem? (i := 1) rfl)) (hw _ (List.mem_of_getElem? (i := 2) rfl)) (hw _ (List.mem_of_getElem? (i := 3) rfl)) e0 (g := (mkF m 36 #[.val (.long q1), .second, .val (.long q2), .second, .val (.int p3), .val (.long (0 : Int64)), .second, .val (.long (0 : Int64)), .second, .unset, .unset] [])) rfl (hb hby at_36) (by decide) (by decide)
      obtain ⟨b46, g46⟩ : ∃ z, z = h0.size := ⟨_, rfl⟩
      rw [← g46] at A46 D46 st46
      have g_b46 : n0 ≤ b46 := Nat.le_trans Z0 (Nat.le_of_eq g46.symm)
      have sz_b46 : h0.size ≤ b46 := Nat.le_trans (Keep.refl h0 []).1 (Nat.le_of_eq g46.symm)
      have Z46 : n0 ≤ h46.size := Nat.le_trans Z0 E46.1
      have KK46 := (Keep.ext (Keep.refl h0 []) E46)
      have F46_observations : Fld Z h46 b46 "com/example/labwire/labwire/store/LeftOut" "observations" "J" (.long (0 : Int64)) := D46 (Or.inr (hw _ (List.mem_of_getElem? (i := 16) rfl))) (ty := .long) (by decide)
      have F46_notes : Fld Z h46 b46 "com/example/labwire/labwire/store/LeftOut" "notes" "J" (.long (0 : Int64)) := D46 (Or.inr (hw _ (List.mem_of_getElem? (i := 18) rfl))) (ty := .long) (by decide)
      obtain ⟨_, _, ⟨T47, L47, k47, n47⟩, -, X47, ⟨Lc47, hQ47, l47, y47, z47⟩, st47⟩ := X46.specialBack hx (y := (⟨"com/example/labwire/labwire/store/LeftOut", "<init>", "(JJ)V"⟩ : MethodName)) rfl hown (mvT hZ (hw _ (List.mem_of_getElem? (i := 4) rfl))) (mvT hZ (hw _ (List.mem_of_getElem? (i := 5) rfl))) (mvT hZ (hw _ (List.mem_of_getElem? (i := 6) rfl))) (by decide) (backOf (W := 1) (rm1 l Z a0 hw [] b46 (0 : Int64) (0 : Int64) (.long (0 : Int64)) (.long (0 : Int64)) h46 n0 Z46 g_b46 A46 F46_observations F46_notes) hZ (hw _ (List.mem_of_getElem? (i := 6) rfl)) (hw _ (List.mem_of_getElem? (i := 3) rfl)) (by decide) (by decide)) (g := (mkF m 44 #[.val (.long q1), .second, .val (.long q2), .second, .val (.int p3), .val (.long (0 : Int64)), .second, .val (.long (0 : Int64)), .second, .unset, .unset] [(.long (0 : Int64)), (.long (0 : Int64)), (.ref b46), (.ref b46)])) rfl (by rw [hml]; rfl) (Steps.refl _) (a := b46) (argsL := [(.long (0 : Int64)), (.long (0 : Int64))]) (rest := [(.ref b46)]) (lenOf pd_0_0 rfl) rfl (by show 2 * 0 + _ ≤ _; exact Nat.le_of_eq rfl) (hb hby at_44) (fun _ _ => ⟨rfl, e46, (by decide : 1 + 0 ≤ _), (by decide : 2 + 0 ≤ _)⟩)
      dsimp only [Pt.U, Pt.locs, Pt.cells, Pt.slots] at X47 l47 y47 z47 st47 hQ47
      subst l47 y47 z47
      obtain ⟨rfl, N47q, K47, A47, G47_observations, G47_notes⟩ := hQ47
      have N47 := Fr.app N0 N47q
      have Z47 : n0 ≤ T47.heap.size := Nat.le_trans Z46 K47.1
      have KK47 := Keep.trans KK46 K47 (allS (Or.inr sz_b46) all0)
      have pr48 : ∀ t, Steps p.tables e below (T47.setTop (mkF m 64 #[.val (.long q1), .second, .val (.long q2), .second, .val (.int p3), .val (.long (0 : Int64)), .second, .val (.long (0 : Int64)), .second, .val (.ref b46), .unset] [(.int (if (lcmpW ((0 : Int64) ||| (0 : Int64)) (0 : Int64)) = (0 : Int32) then (0 : Int32) else (1 : Int32)))])) t → Steps p.tables e below (s₁.setTop (entryFrame m #[(.long q1), (.long q2), (.int p3)] maxLocals)) t := by
        intro t k
        refine pr33 t ?_
        show Steps p.tables e below (s₁.setTop (mkF m 22 #[.val (.long q1), .second, .val (.long q2), .second, .val (.int p3), .val (.long (0 : Int64)), .second, .unset, .unset, .unset, .unset] [(.int (p3 &&& (2 : Int32)))])) _
        refine XS.ifNo X0.here hx rfl (hb hby at_22) rfl ((if0 _ _).trans (feq hc32).1) ?_
        show Steps p.tables e below (s₁.setTop (mkF m 25 #[.val (.long q1), .second, .val (.long q2), .second, .val (.int p3), .val (.long (0 : Int64)), .second, .unset, .unset, .unset, .unset] [])) _
        refine XS.lconst X0.here hx rfl (hb hby at_25) ?_
        show Steps p.tables e below (s₁.setTop (mkF m 26 #[.val (.long q1), .second, .val (.long q2), .second, .val (.int p3), .val (.long (0 : Int64)), .second, .unset, .unset, .unset, .unset] [(.long (0 : Int64))])) _
        refine XS.goto X0.here hx rfl (pc0 := 26) (pc' := 34) rfl (hb hby at_26) (by decide) (by decide) ?_
        show Steps p.tables e below (s₁.setTop (mkF m 34 #[.val (.long q1), .second, .val (.long q2), .second, .val (.int p3), .val (.long (0 : Int64)), .second, .unset, .unset, .unset, .unset] [(.long (0 : Int64))])) _
        refine XS.lstore X0.here hx rfl (hb hby at_34) rfl (l' := #[.val (.long q1), .second, .val (.long q2), .second, .val (.int p3), .val (.long (0 : Int64)), .second, .val (.long (0 : Int64)), .second, .unset, .unset]) rfl ?_
        show Steps p.tables e below (s₁.setTop (mkF m 36 #[.val (.long q1), .second, .val (.long q2), .second, .val (.int p3), .val (.long (0 : Int64)), .second, .val (.long (0 : Int64)), .second, .unset, .unset] [])) _
        refine st46 _ ?_
        show Steps p.tables e below (T46.setTop (mkF m 39 #[.val (.long q1), .second, .val (.long q2), .second, .val (.int p3), .val (.long (0 : Int64)), .second, .val (.long (0 : Int64)), .second, .unset, .unset] [(.ref b46)])) _
        refine XS.dup X46.here hx rfl (hb hby at_39) rfl rfl ?_
        show Steps p.tables e below (T46.setTop (mkF m 40 #[.val (.long q1), .second, .val (.long q2), .second, .val (.int p3), .val (.long (0 : Int64)), .second, .val (.long (0 : Int64)), .second, .unset, .unset] [(.ref b46), (.ref b46)])) _
        refine XS.lload X46.here hx rfl (hb hby at_40) rfl ?_
        show Steps p.tables e below (T46.setTop (mkF m 42 #[.val (.long q1), .second, .val (.long q2), .second, .val (.int p3), .val (.long (0 : Int64)), .second, .val (.long (0 : Int64)), .second, .unset, .unset] [(.long (0 : Int64)), (.ref b46), (.ref b46)])) _
        refine XS.lload X46.here hx rfl (hb hby at_42) rfl ?_
        show Steps p.tables e below (T46.setTop (mkF m 44 #[.val (.long q1), .second, .val (.long q2), .second, .val (.int p3), .val (.long (0 : Int64)), .second, .val (.long (0 : Int64)), .second, .unset, .unset] [(.long (0 : Int64)), (.long (0 : Int64)), (.ref b46), (.ref b46)])) _
        refine st47.trans ?_
        show Steps p.tables e below (T47.setTop (mkF m 47 #[.val (.long q1), .second, .val (.long q2), .second, .val (.int p3), .val (.long (0 : Int64)), .second, .val (.long (0 : Int64)), .second, .unset, .unset] [(.ref b46)])) _
        refine XS.astore X47.here hx rfl (hb hby at_47) rfl rfl (l' := #[.val (.long q1), .second, .val (.long q2), .second, .val (.int p3), .val (.long (0 : Int64)), .second, .val (.long (0 : Int64)), .second, .val (.ref b46), .unset]) rfl ?_
        show Steps p.tables e below (T47.setTop (mkF m 49 #[.val (.long q1), .second, .val (.long q2), .second, .val (.int p3), .val (.long (0 : Int64)), .second, .val (.long (0 : Int64)), .second, .val (.ref b46), .unset] [])) _
        refine XS.lload X47.here hx rfl (hb hby at_49) rfl ?_
        show Steps p.tables e below (T47.setTop (mkF m 51 #[.val (.long q1), .second, .val (.long q2), .second, .val (.int p3), .val (.long (0 : Int64)), .second, .val (.long (0 : Int64)), .second, .val (.ref b46), .unset] [(.long (0 : Int64))])) _
        refine XS.lload X47.here hx rfl (hb hby at_51) rfl ?_
        show Steps p.tables e below (T47.setTop (mkF m 53 #[.val (.long q1), .second, .val (.long q2), .second, .val (.int p3), .val (.long (0 : Int64)), .second, .val (.long (0 : Int64)), .second, .val (.ref b46), .unset] [(.long (0 : Int64)), (.long (0 : Int64))])) _
        refine XS.lor X47.here hx rfl (hb hby at_53) rfl ?_
        show Steps p.tables e below (T47.setTop (mkF m 54 #[.val (.long q1), .second, .val (.long q2), .second, .val (.int p3), .val (.long (0 : Int64)), .second, .val (.long (0 : Int64)), .second, .val (.ref b46), .unset] [(.long ((0 : Int64) ||| (0 : Int64)))])) _
        refine XS.lconst X47.here hx rfl (hb hby at_54) ?_
        show Steps p.tables e below (T47.setTop (mkF m 55 #[.val (.long q1), .second, .val (.long q2), .second, .val (.int p3), .val (.long (0 : Int64)), .second, .val (.long (0 : Int64)), .second, .val (.ref b46), .unset] [(.long (0 : Int64)), (.long ((0 : Int64) ||| (0 : Int64)))])) _
        refine XS.lcmp X47.here hx rfl (hb hby at_55) rfl ?_
        show Steps p.tables e below (T47.setTop (mkF m 56 #[.val (.long q1), .second, .val (.long q2), .second, .val (.int p3), .val (.long (0 : Int64)), .second, .val (.long (0 : Int64)), .second, .val (.ref b46), .unset] [(.int (lcmpW ((0 : Int64) ||| (0 : Int64)) (0 : Int64)))])) _
        by_cases hc49 : (lcmpW ((0 : Int64) ||| (0 : Int64)) (0 : Int64)) = (0 : Int32)
        · rw [if_pos hc49] at k
          refine XS.ifYes X47.here hx rfl (pc0 := 56) (pc' := 63) rfl (hb hby at_56) rfl ((if0 _ _).trans (teq hc49).1) (by decide) (by decide) ?_
          show Steps p.tables e below (T47.setTop (mkF m 63 #[.val (.long q1), .second, .val (.long q2), .second, .val (.int p3), .val (.long (0 : Int64)), .second, .val (.long (0 : Int64)), .second, .val (.ref b46), .unset] [])) _
          refine XS.iconst X47.here hx rfl (hb hby at_63) ?_
          exact k
        · rw [if_neg hc49] at k
          refine XS.ifNo X47.here hx rfl (hb hby at_56) rfl ((if0 _ _).trans (feq hc49).1) ?_
          show Steps p.tables e below (T47.setTop (mkF m 59 #[.val (.long q1), .second, .val (.long q2), .second, .val (.int p3), .val (.long (0 : Int64)), .second, .val (.long (0 : Int64)), .second, .val (.ref b46), .unset] [])) _
          refine XS.iconst X47.here hx rfl (hb hby at_59) ?_
          show Steps p.tables e below (T47.setTop (mkF m 60 #[.val (.long q1), .second, .val (.long q2), .second, .val (.int p3), .val (.long (0 : Int64)), .second, .val (.long (0 : Int64)), .second, .val (.ref b46), .unset] [(.int (1 : Int32))])) _
          refine XS.goto X47.here hx rfl (pc0 := 60) (pc' := 64) rfl (hb hby at_60) (by decide) (by decide) ?_
          exact k
      obtain ⟨cq51, kq51, q51a, q51b, q51c⟩ := isOf hZ rfl A47
      obtain ⟨_, _, ⟨T51, L51, k51, n51⟩, -, X51, ⟨Lc51, hQ51, l51, y51, z51⟩, st51⟩ := X47.virtualBack hx (y := (⟨"com/example/labwire/labwire/store/LeftOut", "any", "()Z"⟩ : MethodName)) (z := (⟨"com/example/labwire/labwire/store/LeftOut", "any", "()Z"⟩ : MethodName)) hown (mvT hZ (hw _ (List.mem_of_getElem? (i := 19) rfl))) (mvT hZ (hw _ (List.mem_of_getElem? (i := 20) rfl))) (notFace_of_selects (args := #[]) (mvT hZ (hw _ (List.mem_of_getElem? (i := 22) rfl)))) (mvT hZ (hw _ (List.mem_of_getElem? (i := 22) rfl))) (mvT hZ (hw _ (List.mem_of_getElem? (i := 21) rfl))) (by decide) (backOf (W := 0) (rm4 l Z a0 hw [] b46 (0 : Int64) (0 : Int64) T47.heap n0 Z47 G47_observations G47_notes) hZ (hw _ (List.mem_of_getElem? (i := 23) rfl)) (hw _ (List.mem_of_getElem? (i := 3) rfl)) (by decide) (by decide)) q51a q51c (g := (mkF m 68 #[.val (.long q1), .second, .val (.long q2), .second, .val (.int p3), .val (.long (0 : Int64)), .second, .val (.long (0 : Int64)), .second, .val (.ref b46), .val (.int (if (lcmpW ((0 : Int64) ||| (0 : Int64)) (0 : Int64)) = (0 : Int32) then (0 : Int32) else (1 : Int32)))] [(.ref b46)])) rfl (by rw [hml]; rfl) (Steps.refl _) (argsL := []) (rest := []) (lenOf pd_0_1 rfl) rfl (by show 2 * 0 + _ ≤ _; exact Nat.le_of_eq rfl) (hb hby at_68) (fun _ _ => ⟨rfl, rfl, (by decide : 1 + 0 ≤ _), (by decide : 2 + 0 ≤ _)⟩)
      dsimp only [Pt.U, Pt.locs, Pt.cells, Pt.slots] at X51 l51 y51 z51 st51 hQ51
      subst l51 y51 z51
      obtain ⟨rfl, N51q, e51⟩ := hQ51
      have N51 := Fr.app N47 N51q
      have f52 := (own_staKeep (Sta.ext E46 S_NONE) K47 (allS (fun c q => by obtain ⟨c', _, q', -, -, q4, -⟩ := A46; cases q'.symm.trans q; exact q4) all0))
      obtain ⟨T53, X53, e53, st53⟩ := getS2 X51 hx hZ hown (host := "") (Or.inl (hw _ (List.mem_of_getElem? (i := 24) rfl))) Via.refl e51 f52 (g := (mkF m 78 #[.val (.long q1), .second, .val (.long q2), .second, .val (.int p3), .val (.long (0 : Int64)), .second, .val (.long (0 : Int64)), .second, .val (.ref b46), .val (.int (if (lcmpW ((0 : Int64) ||| (0 : Int64)) (0 : Int64)) = (0 : Int32) then (0 : Int32) else (1 : Int32)))] [])) rfl (hb hby at_78)
      have f55 := (Exa.keep (Exa.ext E46 E_s_NONE) K47)
      obtain ⟨cq54, kq54, q54a, q54b, q54c⟩ := isOf hZ e53 f55
      have f56 := (Fld.keep (Fld.ext E46 F_observations_s_NONE) K47 (ninS (Nat.ne_of_lt (Nat.lt_of_lt_of_le E_s_NONE.lt sz_b46)) nin0))
      have f57 := (Fld.keep (Fld.ext E46 F_notes_s_NONE) K47 (ninS (Nat.ne_of_lt (Nat.lt_of_lt_of_le E_s_NONE.lt sz_b46)) nin0))
      obtain ⟨_, _, ⟨T54, L54, k54, n54⟩, -, X54, ⟨Lc54, hQ54, l54, y54, z54⟩, st54⟩ := X53.virtualBack hx (y := (⟨"com/example/labwire/labwire/store/LeftOut", "any", "()Z"⟩ : MethodName)) (z := (⟨"com/example/labwire/labwire/store/LeftOut", "any", "()Z"⟩ : MethodName)) hown (mvT hZ (hw _ (List.mem_of_getElem? (i := 19) rfl))) (mvT hZ (hw _ (List.mem_of_getElem? (i := 20) rfl))) (notFace_of_selects (args := #[]) (mvT hZ (hw _ (List.mem_of_getElem? (i := 22) rfl)))) (mvT hZ (hw _ (List.mem_of_getElem? (i := 22) rfl))) (mvT hZ (hw _ (List.mem_of_getElem? (i := 21) rfl))) (by decide) (backOf (W := 0) (rm4 l Z a0 hw [] s_NONE (0 : Int64) (0 : Int64) T47.heap n0 Z47 f56 f57) hZ (hw _ (List.mem_of_getElem? (i := 23) rfl)) (hw _ (List.mem_of_getElem? (i := 3) rfl)) (by decide) (by decide)) q54a q54c (g := (mkF m 81 #[.val (.long q1), .second, .val (.long q2), .second, .val (.int p3), .val (.long (0 : Int64)), .second, .val (.long (0 : Int64)), .second, .val (.ref b46), .val (.int (if (lcmpW ((0 : Int64) ||| (0 : Int64)) (0 : Int64)) = (0 : Int32) then (0 : Int32) else (1 : Int32)))] [(.ref s_NONE)])) rfl (by rw [hml]; rfl) (Steps.refl _) (argsL := []) (rest := []) (lenOf pd_0_1 rfl) rfl (by show 2 * 0 + _ ≤ _; exact Nat.le_of_eq rfl) (hb hby at_81) (fun _ _ => ⟨rfl, e53, (by decide : 1 + 0 ≤ _), (by decide : 2 + 0 ≤ _)⟩)
      dsimp only [Pt.U, Pt.locs, Pt.cells, Pt.slots] at X54 l54 y54 z54 st54 hQ54
      subst l54 y54 z54
      obtain ⟨rfl, N54q, e54⟩ := hQ54
      have N54 := Fr.app N51 N54q
      obtain ⟨fs, hr, hrun, hended, hW, hsame⟩ := X54.leave (v := some (.int (1 : Int32))) (fun h => by rw [Bd.returns] at h; cases h)
      refine ⟨_, _, pr48 _ ?_, hrun, hended, _, _, rfl, ?_, ⟨_, rfl⟩, hW, hsame.mono (by decide) (by decide)⟩
      · show Steps p.tables e below (T47.setTop (mkF m 64 #[.val (.long q1), .second, .val (.long q2), .second, .val (.int p3), .val (.long (0 : Int64)), .second, .val (.long (0 : Int64)), .second, .val (.ref b46), .unset] [(.int (if (lcmpW ((0 : Int64) ||| (0 : Int64)) (0 : Int64)) = (0 : Int32) then (0 : Int32) else (1 : Int32)))])) _
        refine XS.istore X47.here hx rfl (hb hby at_64) rfl (l' := #[.val (.long q1), .second, .val (.long q2), .second, .val (.int p3), .val (.long (0 : Int64)), .second, .val (.long (0 : Int64)), .second, .val (.ref b46), .val (.int (if (lcmpW ((0 : Int64) ||| (0 : Int64)) (0 : Int64)) = (0 : Int32) then (0 : Int32) else (1 : Int32)))]) rfl ?_
        show Steps p.tables e below (T47.setTop (mkF m 66 #[.val (.long q1), .second, .val (.long q2), .second, .val (.int p3), .val (.long (0 : Int64)), .second, .val (.long (0 : Int64)), .second, .val (.ref b46), .val (.int (if (lcmpW ((0 : Int64) ||| (0 : Int64)) (0 : Int64)) = (0 : Int32) then (0 : Int32) else (1 : Int32)))] [])) _
        refine XS.aload X47.here hx rfl (hb hby at_66) rfl rfl ?_
        show Steps p.tables e below (T47.setTop (mkF m 68 #[.val (.long q1), .second, .val (.long q2), .second, .val (.int p3), .val (.long (0 : Int64)), .second, .val (.long (0 : Int64)), .second, .val (.ref b46), .val (.int (if (lcmpW ((0 : Int64) ||| (0 : Int64)) (0 : Int64)) = (0 : Int32) then (0 : Int32) else (1 : Int32)))] [(.ref b46)])) _
        refine st51.trans ?_
        show Steps p.tables e below (T51.setTop (mkF m 71 #[.val (.long q1), .second, .val (.long q2), .second, .val (.int p3), .val (.long (0 : Int64)), .second, .val (.long (0 : Int64)), .second, .val (.ref b46), .val (.int (if (lcmpW ((0 : Int64) ||| (0 : Int64)) (0 : Int64)) = (0 : Int32) then (0 : Int32) else (1 : Int32)))] [(.int (own_f4 (0 : Int64) (0 : Int64)))])) _
        refine XS.iload X51.here hx rfl (hb hby at_71) rfl ?_
        show Steps p.tables e below (T51.setTop (mkF m 73 #[.val (.long q1), .second, .val (.long q2), .second, .val (.int p3), .val (.long (0 : Int64)), .second, .val (.long (0 : Int64)), .second, .val (.ref b46), .val (.int (if (lcmpW ((0 : Int64) ||| (0 : Int64)) (0 : Int64)) = (0 : Int32) then (0 : Int32) else (1 : Int32)))] [(.int (if (lcmpW ((0 : Int64) ||| (0 : Int64)) (0 : Int64)) = (0 : Int32) then (0 : Int32) else (1 : Int32))), (.int (own_f4 (0 : Int64) (0 : Int64)))])) _
        refine XS.icmpYes X51.here hx rfl (pc0 := 73) (pc' := 78) rfl (hb hby at_73) rfl (teq (hq73_4 hc4 hc32)).1 (by decide) (by decide) ?_
        show Steps p.tables e below (T51.setTop (mkF m 78 #[.val (.long q1), .second, .val (.long q2), .second, .val (.int p3), .val (.long (0 : Int64)), .second, .val (.long (0 : Int64)), .second, .val (.ref b46), .val (.int (if (lcmpW ((0 : Int64) ||| (0 : Int64)) (0 : Int64)) = (0 : Int32) then (0 : Int32) else (1 : Int32)))] [])) _
        refine st53 _ ?_
        show Steps p.tables e below (T53.setTop (mkF m 81 #[.val (.long q1), .second, .val (.long q2), .second, .val (.int p3), .val (.long (0 : Int64)), .second, .val (.long (0 : Int64)), .second, .val (.ref b46), .val (.int (if (lcmpW ((0 : Int64) ||| (0 : Int64)) (0 : Int64)) = (0 : Int32) then (0 : Int32) else (1 : Int32)))] [(.ref s_NONE)])) _
        refine st54.trans ?_
        show Steps p.tables e below (T54.setTop (mkF m 84 #[.val (.long q1), .second, .val (.long q2), .second, .val (.int p3), .val (.long (0 : Int64)), .second, .val (.long (0 : Int64)), .second, .val (.ref b46), .val (.int (if (lcmpW ((0 : Int64) ||| (0 : Int64)) (0 : Int64)) = (0 : Int32) then (0 : Int32) else (1 : Int32)))] [(.int (own_f4 (0 : Int64) (0 : Int64)))])) _
        refine XS.ifYes X54.here hx rfl (pc0 := 84) (pc' := 89) rfl (hb hby at_84) rfl ((if0 _ _).trans (teq (by decide : (own_f4 (0 : Int64) (0 : Int64)) = (0 : Int32))).1) (by decide) (by decide) ?_
        show Steps p.tables e below (T54.setTop (mkF m 89 #[.val (.long q1), .second, .val (.long q2), .second, .val (.int p3), .val (.long (0 : Int64)), .second, .val (.long (0 : Int64)), .second, .val (.ref b46), .val (.int (if (lcmpW ((0 : Int64) ||| (0 : Int64)) (0 : Int64)) = (0 : Int32) then (0 : Int32) else (1 : Int32)))] [])) _
        refine XS.iconst X54.here hx rfl (hb hby at_89) ?_
        show Steps p.tables e below (T54.setTop (mkF m 90 #[.val (.long q1), .second, .val (.long q2), .second, .val (.int p3), .val (.long (0 : Int64)), .second, .val (.long (0 : Int64)), .second, .val (.ref b46), .val (.int (if (lcmpW ((0 : Int64) ||| (0 : Int64)) (0 : Int64)) = (0 : Int32) then (0 : Int32) else (1 : Int32)))] [(.int (1 : Int32))])) _
        exact retN X54 hx (t := .boolean) Bd.returns (by simp) (hb hby at_90) hr
      · show Q0 Z q1 q2 p3 s_NONE h0 n0 _ T54.heap _
        rw [e54]
        exact ⟨rfl, N54⟩
set_option maxRecDepth 65536 in
set_option maxHeartbeats 40000000 in
theorem comes_1 {Post : Tables → Env → Array Value → State → Outcome → State → Prop} (hpost : ∀ tb e args s v u, (limb_1_1.after args s (.returned v) u = true ∧ limb_1_2.after args s (.returned v) u = true ∧ True) → FrameEnd s (.returned v) u (Jvm.fieldLocs frame_1_writes args s ++ Jvm.arrayLocs frame_1_arrays args s ++ Jvm.staticLocs frame_1_statics s) 16 128 → Post tb e args s (.returned v) u) :
    ArmFor flags0 classFile x code maxLocals ret World_1 tables_1 room_1 Calls_1 rest_1 Pre_1 Post := by
  intro l hfl _ _ p e ha hc hk s m args below hf hA hF happ hP
  obtain ⟨hcalls, hrest, hpre⟩ := hP
  obtain ⟨-, -, -, hnamed, -, -, -, hat⟩ := (Spec.applies_iff hf).mp happ
  obtain ⟨hg, hn⟩ := and_e (Cond.before_iff.mp (show (Jvm.Cond.and given_1 narrow_1).before args s = true from hpre))
  obtain ⟨c1, c2⟩ := and_e hg
  obtain ⟨c3, c4⟩ := and_e c2
  obtain ⟨c5, c6⟩ := and_e c4
  obtain ⟨w0, w1, w2, rfl⟩ : ∃ w0 w1 w2 : Value, args = #[w0, w1, w2] := by
    have hs : args.size = 3 := by simpa [Cond.value, given_1] using c1
    obtain ⟨L⟩ := args
    match L, hs with
    | [w0, w1, w2], _ => exact ⟨w0, w1, w2, rfl⟩
  have hw := fun d (hd : d ∈ tables_1) => atoms_spec (ws := Jvm.Cond.code x code maxLocals ret :: tables_1) hat d (List.mem_cons_of_mem _ hd)
  have hfit : Fit s := fun {y c} hc i hi => by
    obtain ⟨ha, rfl⟩ := Array.getElem?_eq_some_iff.mp hc
    have q := List.all_eq_true.mp ((Array.all_eq_true_iff_forall_mem.mp hF) _ (Array.getElem_mem ha)) i (List.mem_range.mpr hi)
    simpa [Array.getElem?_eq_getElem hi] using q
  obtain ⟨i0, ei0⟩ := isL_v c3
  obtain rfl : w0 = (.long i0) := Option.some.inj ei0
  obtain ⟨i1, ei1⟩ := isL_v c5
  obtain rfl : w1 = (.long i1) := Option.some.inj ei1
  obtain ⟨i2, ei2⟩ := is_v c6
  obtain rfl : w2 = (.int i2) := Option.some.inj ei2
  obtain ⟨c7, c8⟩ := and_e hn
  obtain ⟨c9, c10⟩ := and_e c8
  obtain ⟨s_NONE, ev_NONE⟩ := exa_v c7
  have E_NONE := Exa.start ev_NONE c7
  have S_NONE := Sta.start ev_NONE (Or.inr ⟨(hw _ (List.mem_of_getElem? (i := 3) rfl)), (hw _ (List.mem_of_getElem? (i := 25) rfl))⟩)
  have F_NONE_observations := own_fldJ ev_NONE c9
  have F_NONE_notes := own_fldJ ev_NONE c10
  have z0 : (0 : Int) ≤ (0 : Int64).toInt := by decide
  have hq73_1 : ((i2 &&& (1 : Int32)) = (0 : Int32)) → ((i2 &&& (2 : Int32)) = (0 : Int32)) → (own_f4 (i0 &&& (9223372036854775807 : Int64)) (i1 &&& (9223372036854775807 : Int64))) = (if (lcmpW ((i0 &&& (9223372036854775807 : Int64)) ||| (i1 &&& (9223372036854775807 : Int64))) (0 : Int64)) = (0 : Int32) then (0 : Int32) else (1 : Int32)) := fun _ _ => own_any _ _ (own_pos _) (own_pos _)
  have hq73_2 : ((i2 &&& (1 : Int32)) = (0 : Int32)) → (¬ ((i2 &&& (2 : Int32)) = (0 : Int32))) → (own_f4 (i0 &&& (9223372036854775807 : Int64)) (0 : Int64)) = (if (lcmpW ((i0 &&& (9223372036854775807 : Int64)) ||| (0 : Int64)) (0 : Int64)) = (0 : Int32) then (0 : Int32) else (1 : Int32)) := fun _ _ => own_any _ _ (own_pos _) z0
  have hq73_3 : (¬ ((i2 &&& (1 : Int32)) = (0 : Int32))) → ((i2 &&& (2 : Int32)) = (0 : Int32)) → (own_f4 (0 : Int64) (i1 &&& (9223372036854775807 : Int64))) = (if (lcmpW ((0 : Int64) ||| (i1 &&& (9223372036854775807 : Int64))) (0 : Int64)) = (0 : Int32) then (0 : Int32) else (1 : Int32)) := fun _ _ => own_any _ _ z0 (own_pos _)
  have hq73_4 : (¬ ((i2 &&& (1 : Int32)) = (0 : Int32))) → (¬ ((i2 &&& (2 : Int32)) = (0 : Int32))) → (own_f4 (0 : Int64) (0 : Int64)) = (if (lcmpW ((0 : Int64) ||| (0 : Int64)) (0 : Int64)) = (0 : Int32) then (0 : Int32) else (1 : Int32)) := fun _ _ => own_any _ _ z0 z0
  obtain ⟨n, o, h1, h2, h3, _, L, rfl, ⟨rfl, N⟩, hq⟩ := rm0 l s _ hw tables_1 i0 i1 i2 s_NONE s.heap s.heap.size (Nat.le_refl _) hq73_1 S_NONE E_NONE F_NONE_observations F_NONE_notes hq73_2 hq73_3 hq73_4 p e ha hc hk s m _ below hf ((Spec.applies_iff_loose hf).mp happ).1 ⟨rfl, State.Warmed39.refl s, rfl⟩ trivial
  refine ⟨n, _, h1, h2, h3, hpost _ _ _ _ _ _ ⟨Cond.after_iff.mpr rfl, Cond.after_iff.mpr (eq_i res_at (Term.int_eval (1)) rfl), trivial⟩ ⟨hq.1, hq.2.1, (hq.2.2.sift fun y hy => Or.inr (N y hy)).mono (by decide) (by decide)⟩⟩
theorem main_1_1 : Claimed_1_1 := comes_1 fun _ _ _ _ _ _ h hF => ⟨h.1, hF⟩
theorem main_1_2 : Claimed_1_2 := comes_1 fun _ _ _ _ _ _ h hF => ⟨h.2.1, hF⟩
end Jvm.Pilot.@@N@@
namespace Jvm.Pilot.@@N@@
open Jvm Jvm.ClassFile Sem Op Lib Jvm.Free Jvm.Stand Jvm.Pilot.@@N@@.Jvm.D
/-! MADE BY PROGRAM (witnessworld.py) out of the Statement's table words and the real class files: 10 classes; the members and pool entries that the words name. The judged class is class 1, her method 1. -/
namespace start1
open Jvm.ClassFile
def u (s : String) : CpInfo := .utf8 (stringToUtf16 s)
/-- a pool by its gaps: so many unusable entries, then the entry; so many at the end -/
def gap : Nat → List CpInfo → List CpInfo
  | 0, r => r
  | n + 1, r => .unusable :: gap n r
def poolList (es : List (Nat × CpInfo)) (last : Nat) : List CpInfo := es.foldr (fun e r => gap e.1 (e.2 :: r)) (gap last [])
def pool (es : List (Nat × CpInfo)) (last : Nat) : Array CpInfo := ⟨poolList es last⟩
def fileOf (pool : Array CpInfo) (this : Nat) (attrs : Array Attribute := #[]) (ms : Array MethodInfo := #[]) (fl : Nat := 33) (sup : Nat := 0) (ifs : Array Nat := #[]) (fds : Array FieldInfo := #[]) : ClassFile where
  minorVersion := 0
  majorVersion := 65
  constantPool := pool
  accessFlags := fl
  thisClass := this
  superClass := sup
  interfaces := ifs
  fields := fds
  methods := ms
  attributes := attrs
def plain (name : String) (sup : Option ClassId) : Class where
  name := name
  kind := .ordinary
  loader := none
  accessFlags := 33
  super := sup
  interfaces := #[]
  cf := none
  fields := #[]
  methods := #[]
  instanceTypes := #[]
  staticTypes := #[]
  resolved := #[]
  callSites := []
  init := .initialized
  statics := none
  mirror := none

def pool0 : Array CpInfo := pool [(5, u "<init>"), (0, u "()V"), (1, .class_ 10), (1, u "java/lang/Object")] 113

def k0c0 : Code := { maxStack := 0, maxLocals := 1, code := object_method_1_code, exceptionTable := #[], attributes := #[] }
def k0m0 : Method := { name := "<init>", desc := "()V", sig := { parameters := [], returnType := none }, accessFlags := 1, code := some k0c0 }
/-- java/lang/Object -/
def k0 : Class := { plain "java/lang/Object" none with
  accessFlags := 33
  interfaces := #[]
  cf := some (fileOf pool0 8 #[] #[{ accessFlags := 1, nameIndex := 5, descriptorIndex := 6, attributes := #[] }] 33 0 #[] #[])
  fields := #[]
  methods := #[k0m0]
  instanceTypes := #[]
  staticTypes := #[]
  resolved := Array.replicate 124 none
  statics := none }

def pool1 : Array CpInfo := pool [(2, .class_ 4), (1, u "java/lang/Object"), (0, u "<init>"), (0, u "()V"), (2, .long 9223372036854775807), (1, .class_ 12), (0, u "com/example/labwire/labwire/store/LeftOut"), (0, .methodref 11 14), (0, .nameAndType 5 15), (0, u "(JJ)V"), (0, .methodref 11 17), (0, .nameAndType 18 19), (0, u "any"), (0, u "()Z"), (0, .fieldref 11 21), (0, .nameAndType 22 23), (0, u "NONE"), (0, u "Lcom/example/labwire/labwire/store/LeftOut;"), (0, .class_ 25), (0, u "com/example/labwire/labwire/store/LeftOutAnyPinLaw"), (2, u "law"), (0, u "(JJI)Z")] 3

def k1m0 : Method := { name := "<init>", desc := "()V", sig := { parameters := [], returnType := none }, accessFlags := 1, code := none }
def k1c1 : Code := { maxStack := 6, maxLocals := 11, code := code, exceptionTable := #[], attributes := #[] }
def k1m1 : Method := { name := "law", desc := "(JJI)Z", sig := { parameters := [.long, .long, .int], returnType := some .boolean }, accessFlags := 9, code := some k1c1 }
/-- com/example/labwire/labwire/store/LeftOutAnyPinLaw -/
def k1 : Class := { plain "com/example/labwire/labwire/store/LeftOutAnyPinLaw" (some 0) with
  accessFlags := 49
  interfaces := #[]
  cf := some (fileOf pool1 24 #[] #[{ accessFlags := 1, nameIndex := 5, descriptorIndex := 6, attributes := #[] }, { accessFlags := 9, nameIndex := 28, descriptorIndex := 29, attributes := #[] }] 49 2 #[] #[])
  fields := #[]
  methods := #[k1m0, k1m1]
  instanceTypes := #[]
  staticTypes := #[]
  resolved := Array.replicate 33 none
  statics := none }

def pool2 : Array CpInfo := pool [(1, .methodref 2 3), (0, .class_ 4), (0, .nameAndType 5 6), (0, u "java/lang/Object"), (0, u "<init>"), (0, u "()V"), (0, .class_ 8), (0, u "java/lang/Record")] 13

def k2c0 : Code := { maxStack := 1, maxLocals := 1, code := jdk_30_method_1_code, exceptionTable := #[], attributes := #[] }
def k2m0 : Method := { name := "<init>", desc := "()V", sig := { parameters := [], returnType := none }, accessFlags := 4, code := some k2c0 }
/-- java/lang/Record -/
def k2 : Class := { plain "java/lang/Record" (some 0) with
  accessFlags := 1057
  interfaces := #[]
  cf := some (fileOf pool2 7 #[] #[{ accessFlags := 4, nameIndex := 5, descriptorIndex := 6, attributes := #[] }] 1057 2 #[] #[])
  fields := #[]
  methods := #[k2m0]
  instanceTypes := #[]
  staticTypes := #[]
  resolved := Array.replicate 22 none
  statics := none }

def pool3 : Array CpInfo := pool [(1, .methodref 2 3), (0, .class_ 4), (0, .nameAndType 5 6), (0, u "java/lang/Record"), (0, u "<init>"), (0, u "()V"), (0, .fieldref 8 9), (0, .class_ 10), (0, .nameAndType 11 12), (0, u "com/example/labwire/labwire/store/LeftOut"), (0, u "observations"), (0, u "J"), (0, .fieldref 8 14), (0, .nameAndType 15 12), (0, u "notes"), (2, u "(JJ)V"), (14, u "NONE"), (0, u "Lcom/example/labwire/labwire/store/LeftOut;"), (3, u "any"), (0, u "()Z")] 29

def k3c0 : Code := { maxStack := 3, maxLocals := 5, code := prog_96_method_1_code, exceptionTable := #[], attributes := #[] }
def k3m0 : Method := { name := "<init>", desc := "(JJ)V", sig := { parameters := [.long, .long], returnType := none }, accessFlags := 1, code := some k3c0 }
def k3c1 : Code := { maxStack := 4, maxLocals := 1, code := prog_96_method_2_code, exceptionTable := #[], attributes := #[] }
def k3m1 : Method := { name := "any", desc := "()Z", sig := { parameters := [], returnType := some .boolean }, accessFlags := 1, code := some k3c1 }
/-- com/example/labwire/labwire/store/LeftOut -/
def k3 : Class := { plain "com/example/labwire/labwire/store/LeftOut" (some 2) with
  accessFlags := 49
  interfaces := #[]
  cf := some (fileOf pool3 8 #[] #[{ accessFlags := 1, nameIndex := 5, descriptorIndex := 18, attributes := #[] }, { accessFlags := 1, nameIndex := 38, descriptorIndex := 39, attributes := #[] }] 49 2 #[] #[{ accessFlags := 18, nameIndex := 11, descriptorIndex := 12, attributes := #[] }, { accessFlags := 18, nameIndex := 15, descriptorIndex := 12, attributes := #[] }, { accessFlags := 25, nameIndex := 33, descriptorIndex := 34, attributes := #[] }])
  fields := #[{ name := "observations", type := .long, accessFlags := 18, slot := 0, constantValue := 0 }, { name := "notes", type := .long, accessFlags := 18, slot := 1, constantValue := 0 }, { name := "NONE", type := (.object "com/example/labwire/labwire/store/LeftOut"), accessFlags := 25, slot := 0, constantValue := 0 }]
  methods := #[k3m0, k3m1]
  instanceTypes := #[.long, .long]
  staticTypes := #[(.object "com/example/labwire/labwire/store/LeftOut")]
  resolved := Array.replicate 69 none
  statics := some 0 }

def pool4 : Array CpInfo := pool [(1, u "java/lang/Cloneable"), (0, .class_ 1), (0, u "java/lang/Object"), (0, .class_ 3)] 3

/-- java/lang/Cloneable -/
def k4 : Class := { plain "java/lang/Cloneable" (some 0) with
  accessFlags := 1537
  interfaces := #[]
  cf := some (fileOf pool4 2 #[] #[] 1537 4 #[] #[])
  fields := #[]
  methods := #[]
  instanceTypes := #[]
  staticTypes := #[]
  resolved := Array.replicate 8 none
  statics := none }

def pool5 : Array CpInfo := pool [(1, u "java/io/Serializable"), (0, .class_ 1), (0, u "java/lang/Object"), (0, .class_ 3)] 3

/-- java/io/Serializable -/
def k5 : Class := { plain "java/io/Serializable" (some 0) with
  accessFlags := 1537
  interfaces := #[]
  cf := some (fileOf pool5 2 #[] #[] 1537 4 #[] #[])
  fields := #[]
  methods := #[]
  instanceTypes := #[]
  staticTypes := #[]
  resolved := Array.replicate 8 none
  statics := none }

/-- the primitive byte -/
def k6 : Class := { plain "byte" none with kind := .primitive 'B', accessFlags := 0x411 }
/-- [B -/
def k7 : Class := { plain "[B" (some 0) with kind := .array 6 .byte, interfaces := #[4, 5], accessFlags := 1041 }

/-- the primitive int -/
def k8 : Class := { plain "int" none with kind := .primitive 'I', accessFlags := 0x411 }
/-- [I -/
def k9 : Class := { plain "[I" (some 0) with kind := .array 8 .int, interfaces := #[4, 5], accessFlags := 1041 }

def heap : Heap := #[{ cls := 3, slots := #[.ref 1], vm := .statics 3 },
  { cls := 3, slots := #[.long 0, .long 0], vm := .none }]
def classes : Array Class := #[k0, k1, k2, k3, k4, k5, k6, k7, k8, k9]
def interned : List (Array UInt16 × Addr) := []
def slotsUsed : Nat := 3
def theMethod : MethodId := ⟨1, 1⟩
def args0 : Array Value := #[.long 5, .long 6, .int 0]
def aboutOver (below : List Frame) : State where
  vm := { classes := classes, interned := interned.toArray }
  heap := heap
  slotsUsed := slotsUsed
  threads := #[{ frames := .invoking theMethod args0 :: below }]
def below0 : List Frame := [.native { method := ⟨0, 0⟩, args := #[] }]
def about1 : State := aboutOver below0
def p0 : Program := .bare "" "" ""
def e0 : Env := launch0.env 0 0 0
theorem w_frames : about1.frames = Frame.invoking theMethod args0 :: below0 := rfl
set_option maxRecDepth 65536 in
theorem w_args : argsFit about1.vm theMethod args0 = true := by decide +kernel
set_option maxRecDepth 65536 in
theorem w_heap : heapFits about1 = true := by decide +kernel
set_option maxRecDepth 65536 in
theorem w_runnable : about1.curStatus? = some .runnable := by decide +kernel
set_option maxRecDepth 65536 in
theorem w_alone : about1.alone = true := by decide +kernel
set_option maxRecDepth 65536 in
theorem w_named : about1.methodNamed? x = some theMethod := by decide +kernel
set_option maxRecDepth 65536 in
theorem w_hears : about1.hears theMethod below0 = true := by decide +kernel
set_option maxRecDepth 65536 in
theorem w_ripe : about1.ripe theMethod args0 below0 = true := by decide +kernel
theorem w_running : about1.status = .running := rfl
set_option maxRecDepth 65536 in
theorem w_room : about1.hasRoom e0.platform room_1 = true :=
  launch0.hasRoom_least _ room_1 (by decide +kernel) (by decide +kernel) (by decide +kernel) (by decide +kernel) (by decide +kernel) (by decide +kernel)
theorem allAtoms_all (ts : List Jvm.Cond) (a : Array Jvm.Value) (st : Jvm.State) : (allAtoms ts).before a st = ts.all (fun c => c.before a st) := by
  induction ts with
  | nil => rfl
  | cons c t ih =>
    show (Jvm.Cond.and c (allAtoms t)).before a st = _
    rw [Jvm.Cond.before_and, ih, List.all_cons]
def words1 : List Jvm.Cond := Jvm.Cond.code x code maxLocals ret :: tables_1
/-- a 'code' word, met by the world's own term for the bytes: nothing is compared byte by byte -/
theorem code_word {y : MethodName} {bytes : ByteArray} {mx : Nat} {rt : Option FieldType} {a : Array Value} {s : State} {m : MethodId} {meth : Method} {c : Code} (h1 : s.methodNamed? y = some m) (h2 : s.vm.method? m = some meth) (h3 : meth.code = some c) (h4 : c.code = bytes)
    (h5 : (c.maxLocals == mx && c.exceptionTable.isEmpty && decide (c.maxStack ≤ mostOperands) && decide (meth.sig.returnType = rt) && !meth.locks && decide (parseMethodDescriptor y.desc = some meth.sig)) = true) : (Jvm.Cond.code y bytes mx rt).before a s = true := by
  simp only [Bool.and_eq_true, beq_iff_eq, Bool.not_eq_true', decide_eq_true_eq] at h5
  obtain ⟨⟨⟨⟨⟨g1, g2⟩, g3⟩, g4⟩, g5⟩, g6⟩ := h5
  simp [Cond.before, Cond.holds, Cond.value, h1, h2, h3, h4, g1, g2, g3, g4, g5, g6]
def isCode : Jvm.Cond → Bool
  | .code _ _ _ _ => true
  | _ => false
theorem all_split {L : List Jvm.Cond} {P : Jvm.Cond → Bool} (h1 : L.all (fun c => isCode c || P c) = true) (h2 : ∀ c ∈ L.filter isCode, P c = true) : L.all P = true := by
  refine List.all_eq_true.mpr fun c hc => ?_
  have h := List.all_eq_true.mp h1 c hc
  rcases Bool.eq_false_or_eq_true (isCode c) with hi | hi
  · exact h2 c (List.mem_filter.mpr ⟨hc, hi⟩)
  · simpa [hi] using h
set_option maxRecDepth 65536 in
theorem w_c0 : (Jvm.Cond.code x code maxLocals ret).before args0 about1 = true := code_word (m := ⟨1, 1⟩) (meth := k1m1) (c := k1c1) (by decide +kernel) rfl rfl rfl (by decide +kernel)
set_option maxRecDepth 65536 in
theorem w_c1 : (Jvm.Cond.code ({ cls := "com/example/labwire/labwire/store/LeftOut", name := "<init>", desc := "(JJ)V" } : Jvm.MethodName) prog_96_method_1_code (5 : Nat) (Option.none : Option Jvm.ClassFile.FieldType)).before args0 about1 = true := code_word (m := ⟨3, 0⟩) (meth := k3m0) (c := k3c0) (by decide +kernel) rfl rfl rfl (by decide +kernel)
set_option maxRecDepth 65536 in
theorem w_c2 : (Jvm.Cond.code ({ cls := "java/lang/Record", name := "<init>", desc := "()V" } : Jvm.MethodName) jdk_30_method_1_code (1 : Nat) (Option.none : Option Jvm.ClassFile.FieldType)).before args0 about1 = true := code_word (m := ⟨2, 0⟩) (meth := k2m0) (c := k2c0) (by decide +kernel) rfl rfl rfl (by decide +kernel)
set_option maxRecDepth 65536 in
theorem w_c3 : (Jvm.Cond.code ({ cls := "java/lang/Object", name := "<init>", desc := "()V" } : Jvm.MethodName) object_method_1_code (1 : Nat) (Option.none : Option Jvm.ClassFile.FieldType)).before args0 about1 = true := code_word (m := ⟨0, 0⟩) (meth := k0m0) (c := k0c0) (by decide +kernel) rfl rfl rfl (by decide +kernel)
set_option maxRecDepth 65536 in
theorem w_c4 : (Jvm.Cond.code ({ cls := "com/example/labwire/labwire/store/LeftOut", name := "any", desc := "()Z" } : Jvm.MethodName) prog_96_method_2_code (1 : Nat) (Option.some Jvm.ClassFile.FieldType.boolean)).before args0 about1 = true := code_word (m := ⟨3, 1⟩) (meth := k3m1) (c := k3c1) (by decide +kernel) rfl rfl rfl (by decide +kernel)
def codes1 : List Jvm.Cond := [Jvm.Cond.code x code maxLocals ret, Jvm.Cond.code ({ cls := "com/example/labwire/labwire/store/LeftOut", name := "<init>", desc := "(JJ)V" } : Jvm.MethodName) prog_96_method_1_code (5 : Nat) (Option.none : Option Jvm.ClassFile.FieldType), Jvm.Cond.code ({ cls := "java/lang/Record", name := "<init>", desc := "()V" } : Jvm.MethodName) jdk_30_method_1_code (1 : Nat) (Option.none : Option Jvm.ClassFile.FieldType), Jvm.Cond.code ({ cls := "java/lang/Object", name := "<init>", desc := "()V" } : Jvm.MethodName) object_method_1_code (1 : Nat) (Option.none : Option Jvm.ClassFile.FieldType), Jvm.Cond.code ({ cls := "com/example/labwire/labwire/store/LeftOut", name := "any", desc := "()Z" } : Jvm.MethodName) prog_96_method_2_code (1 : Nat) (Option.some Jvm.ClassFile.FieldType.boolean)]
set_option maxRecDepth 65536 in
theorem codes_eq : words1.filter isCode = codes1 := rfl
theorem w_codes : ∀ c ∈ words1.filter isCode, c.before args0 about1 = true := by
  rw [codes_eq]
  intro c hc
  simp only [codes1, List.mem_cons, List.not_mem_nil, or_false] at hc
  rcases hc with rfl | rfl | rfl | rfl | rfl
  · exact w_c0
  · exact w_c1
  · exact w_c2
  · exact w_c3
  · exact w_c4
set_option maxRecDepth 65536 in
theorem w_t1 : (words1.take 24).all (fun c => isCode c || c.before args0 about1) = true := by decide +kernel
set_option maxRecDepth 65536 in
theorem w_t2 : (words1.drop 24).all (fun c => isCode c || c.before args0 about1) = true := by decide +kernel
theorem w_tables : (allAtoms (Jvm.Cond.code x code maxLocals ret :: tables_1)).before args0 about1 = true := by
  rw [allAtoms_all]
  show words1.all (fun c => c.before args0 about1) = true
  refine all_split ?_ w_codes
  rw [← List.take_append_drop 24 words1, List.all_append, w_t1, w_t2]
  rfl
set_option maxRecDepth 65536 in
theorem w_case : (Jvm.Cond.and given_1 narrow_1).before args0 about1 = true := by decide +kernel
theorem w_applies : (headSpec (Jvm.Cond.code x code maxLocals ret :: tables_1) room_1).applies x e0.platform about1 = true :=
  (Spec.applies_iff w_frames).mpr ⟨w_running, w_runnable, w_alone, w_named, w_hears, w_ripe, w_room, w_tables⟩
theorem atStart : AtStart classFile x code maxLocals ret World_1 tables_1 room_1 Calls_1 rest_1 Pre_1 launch0 p0 e0 about1 theMethod args0 below0 :=
  ⟨lists_1, trivial, launch0.admits_env _ _ _, launch0.least_env, fairChoices_fair.cas, fairChoices_fair.clock, w_frames, w_args, w_heap, w_applies, trivial, trivial, w_case⟩
end start1
theorem witness_1 : WitnessClaimed_1 := ⟨start1.p0, start1.e0, start1.about1, start1.theMethod, start1.args0, start1.below0, start1.atStart⟩
end Jvm.Pilot.@@N@@
