import JvmDerived
import JvmDerived.Pilot.@@N@@Statement
import JvmDerived.Pilot.@@N@@Code
set_option linter.unusedVariables false
set_option linter.unusedSimpArgs false
namespace Jvm.Pilot.@@N@@
open Jvm Jvm.ClassFile Sem Op Lib Jvm.Free Jvm.Stand Jvm.LawKit Jvm.RoadKit Bundle Jvm.Pilot.@@N@@.Jvm.D
theorem own_fldI {Z : State} {args : Array Value} {t : Term} {a : Addr} {C n d : String} {z : Int32} (ev : t.eval args Z none [] Z = some (.ref a)) (h : (Cond.eq (Term.field t C n d) (Term.int z)).value args Z none Z [] = some true) : Fld Z Z.heap a C n d (.int z) := by
  obtain ⟨x, y, h1, h2, k1, k2⟩ := cmp_v (Or.inl h)
  have e2 : y = .int z := (Option.some.inj h2).symm
  subst e2
  obtain ⟨w, rfl⟩ := k2
  have hq : (Cond.eq (Term.field t C n d) (Term.int z)).value args Z none Z [] = some (decide (w = z)) := by simp [Cond.value, h1, h2]
  have hw : w = z := gotT hq h
  subst hw
  exact Fld.start ((fld_at ev).symm.trans h1)
theorem own_fldJ {Z : State} {args : Array Value} {t : Term} {a : Addr} {C n d : String} {z : Int64} (ev : t.eval args Z none [] Z = some (.ref a)) (h : (Cond.eq (Term.field t C n d) (Term.long z)).value args Z none Z [] = some true) : Fld Z Z.heap a C n d (.long z) := by
  obtain ⟨x, y, h1, h2, k1, k2⟩ := cmp_v (Or.inl h)
  have e2 : y = .long z := (Option.some.inj h2).symm
  subst e2
  obtain ⟨w, rfl⟩ := k2
  have hq : (Cond.eq (Term.field t C n d) (Term.long z)).value args Z none Z [] = some (decide (w = z)) := eq_L h1 h2
  have hw : w = z := gotT hq h
  subst hw
  exact Fld.start ((fld_at ev).symm.trans h1)
theorem own_arrKeep {Z : State} {h h' : Heap} {ws : List Addr} {a : Addr} {c : Cell} {ty : FieldType} (F : Arr Z h a c ty) (K : Keep h h' ws) (q : a ∉ ws) : Arr Z h' a c ty := ⟨K.2.1 _ _ F.1 q, F.2⟩
theorem own_staKeep {Z : State} {h h' : Heap} {ws : List Addr} {C n d : String} {v : Value} (F : Sta Z h C n d v) (K : Keep h h' ws) (q : ∀ x ∈ ws, ∀ c : Cell, h[x]? = some c → c.vm.isStatics = false) : Sta Z h' C n d v := by
  obtain ⟨cf, i, k, f, st, cell, h1, h2, h3, h4, h5, h6, h7⟩ := F
  exact ⟨cf, i, k, f, st, cell, h1, h2, h3, h4, K.2.1 _ _ h5 (fun z => by rw [q _ z _ h5] at h6; cases h6), h6, h7⟩
theorem own_cRef (a : Addr) : (Value.ref a).category = 1 := rfl
theorem own_cInt (z : Int32) : (Value.int z).category = 1 := rfl
theorem own_cLong (z : Int64) : (Value.long z).category = 2 := rfl
theorem own_catR {v : Value} (h : v.isRef = true) : v.category = 1 := by cases v <;> first | rfl | (simp [Value.isRef] at h)
theorem own_narR (C : String) (v : Value) : narrow (.object C) v = v := by cases v <;> rfl
theorem own_fitsR (C : String) {v : Value} (h : v.isRef = true) : fits (.object C) v = true := by cases v <;> first | rfl | (simp [Value.isRef] at h)
theorem own_narN (x : Int32) : nar .boolean (nar .boolean x) = nar .boolean x := by
  show (x &&& 1) &&& 1 = x &&& 1
  rcases and_one x with h | h <;> rw [h] <;> rfl
theorem own_narIf (c : Prop) [Decidable c] : nar .boolean (if c then (0 : Int32) else (1 : Int32)) = (if c then (0 : Int32) else (1 : Int32)) := by
  by_cases h : c
  · rw [if_pos h]; rfl
  · rw [if_neg h]; rfl
theorem own_ne0 {Z : State} {args : Array Value} {t : Term} {x : Int32} (ev : t.eval args Z none [] Z = some (.int x)) (h : (Cond.not (Cond.eq t (Term.int 0))).value args Z none Z [] = some true) : ¬ (x = (0 : Int32)) := by
  have h1 := not_v h
  have hq : (Cond.eq t (Term.int 0)).value args Z none Z [] = some (decide (x = 0)) := by simp only [Cond.value, ev, Term.int_eval]
  exact gotF hq h1
def own_f3 (p1 : Int32) : Int32 := (if (255 : Int32) < p1 then (0 : Int32) else (1 : Int32))
theorem d3_0 : decode jdk_43_method_3_code 0 = .ok (.iload_n 0, 1) := by decide +kernel
theorem d3_1 : decode jdk_43_method_3_code 1 = .ok (.sipush 255, 3) := by decide +kernel
theorem d3_4 : decode jdk_43_method_3_code 4 = .ok (.if_icmp .gt 7, 3) := by decide +kernel
theorem d3_7 : decode jdk_43_method_3_code 7 = .ok (.iconst 1, 1) := by decide +kernel
theorem d3_8 : decode jdk_43_method_3_code 8 = .ok (.goto 4, 3) := by decide +kernel
theorem d3_11 : decode jdk_43_method_3_code 11 = .ok (.iconst 0, 1) := by decide +kernel
theorem d3_12 : decode jdk_43_method_3_code 12 = .ok (.ireturn, 1) := by decide +kernel
theorem pn_3 : plainName "java/lang/StringLatin1" = true := by first | (simp [plainName, overriddenIn]; done) | decide +kernel
theorem ef_3 (m : MethodId) (x0 : Int32) : entryFrame m #[(.int x0)] 1 = mkF m 0 #[.val (.int x0)] [] := by first | (simp [entryFrame, mkF, argsToLocals, Value.category]; done) | rfl
def Q3 (Z : State) (p1 : Int32) (h0 : Heap) (n0 : Nat) (v : Option Value) (h : Heap) (L : List Loc) : Prop := v = some (.int (own_f3 p1)) ∧ Fr n0 L ∧ h = h0
set_option maxRecDepth 65536 in
set_option maxHeartbeats 40000000 in
theorem rm3 (l : Launch) (Z : State) (a0 : Array Value) (hw : ∀ d ∈ tables_1, d.before a0 Z = true) (ws : List Jvm.Cond) (p1 : Int32) (h0 : Heap) (n0 : Nat) (Z0 : n0 ≤ h0.size) :
    MetFree l (⟨"java/lang/StringLatin1", "canEncode", "(C)Z"⟩ : MethodName) (head1 (Jvm.Cond.code (⟨"java/lang/StringLatin1", "canEncode", "(C)Z"⟩ : MethodName) jdk_43_method_3_code 1 (some .boolean) :: ws) ({ frames := 0, cells := 0, slots := 0, locals := 0 } : Room)) (fun a U => a = #[(.int p1)] ∧ Z.Warmed39 U.vm ∧ U.heap = h0) (fun _ _ _ _ _ => True) (fun _ U o U' => ∃ v L, o = .returned v ∧ Q3 Z p1 h0 n0 v U'.heap L ∧ FrameEnd U o U' L ({ frames := 0, cells := 0, slots := 0, locals := 0 } : Room).cells ({ frames := 0, cells := 0, slots := 0, locals := 0 } : Room).slots) := by
  refine MetFree.of_bodySF (plainFor_of_name pn_3) hisR ?_
  intro p e s m args below meth c s₁ Bd hml0 hP hK
  obtain ⟨rfl, hZ, hh⟩ := hP
  have hx := Bd.exec
  have hby := Bd.bytes
  have hml : c.maxLocals = 1 := hml0
  have hown : s.vm.findClass "java/lang/StringLatin1" = some m.cls := findClass_of_methodNamed Bd.named
  have hnm := (name_of_methodNamed Bd.named Bd.method).1
  have X0 : Stand p l e ({ frames := 0, cells := 0, slots := 0, locals := 0 } : Room) s m #[(.int p1)] below meth c s₁ [] 0 0 := Stand.of_body Bd
  have e0 : s₁.heap = h0 := by rw [← hh, Bd.state]; rfl
  have N0 := Fr.nil n0
  have pre0 : ∀ t, Steps p.tables e below (s₁.setTop (mkF m 0 #[.val (.int p1)] [])) t → Steps p.tables e below (s₁.setTop (entryFrame m #[(.int p1)] 1)) t := fun t k => castTop (ef_3 m p1) k
  have pr3 : ∀ t, Steps p.tables e below (s₁.setTop (mkF m 4 #[.val (.int p1)] [(.int (255 : Int32)), (.int p1)])) t → Steps p.tables e below (s₁.setTop (entryFrame m #[(.int p1)] 1)) t := by
    intro t k
    refine pre0 t ?_
    show Steps p.tables e below (s₁.setTop (mkF m 0 #[.val (.int p1)] [])) _
    refine XS.iloadN X0.here hx rfl (hb hby d3_0) rfl ?_
    show Steps p.tables e below (s₁.setTop (mkF m 1 #[.val (.int p1)] [(.int p1)])) _
    refine XS.sipush X0.here hx rfl (hb hby d3_1) ?_
    show Steps p.tables e below (s₁.setTop (mkF m 4 #[.val (.int p1)] [(.int (255 : Int32)), (.int p1)])) _
    exact k
  by_cases hc2 : (255 : Int32) < p1
  · obtain ⟨fs, hr, hrun, hended, hW, hsame⟩ := X0.leave (v := some (.int (0 : Int32))) (fun h => by rw [Bd.returns] at h; cases h)
    refine ⟨_, _, pr3 _ ?_, hrun, hended, _, _, rfl, ?_, ⟨_, rfl⟩, hW, hsame.mono (by decide) (by decide)⟩
    · show Steps p.tables e below (s₁.setTop (mkF m 4 #[.val (.int p1)] [(.int (255 : Int32)), (.int p1)])) _
      refine XS.icmpYes X0.here hx rfl (pc0 := 4) (pc' := 11) rfl (hb hby d3_4) rfl (tlt hc2).2.2.1 (by decide) (by decide) ?_
      show Steps p.tables e below (s₁.setTop (mkF m 11 #[.val (.int p1)] [])) _
      refine XS.iconst X0.here hx rfl (hb hby d3_11) ?_
      show Steps p.tables e below (s₁.setTop (mkF m 12 #[.val (.int p1)] [(.int (0 : Int32))])) _
      exact retN X0 hx (t := .boolean) Bd.returns (by simp) (hb hby d3_12) hr
    · show Q3 Z p1 h0 n0 _ s₁.heap _
      rw [e0]
      exact ⟨(by rw [show (own_f3 p1) = (0 : Int32) from by unfold own_f3; rw [if_pos hc2]]), N0, rfl⟩
  · obtain ⟨fs, hr, hrun, hended, hW, hsame⟩ := X0.leave (v := some (.int (1 : Int32))) (fun h => by rw [Bd.returns] at h; cases h)
    refine ⟨_, _, pr3 _ ?_, hrun, hended, _, _, rfl, ?_, ⟨_, rfl⟩, hW, hsame.mono (by decide) (by decide)⟩
    · show Steps p.tables e below (s₁.setTop (mkF m 4 #[.val (.int p1)] [(.int (255 : Int32)), (.int p1)])) _
      refine XS.icmpNo X0.here hx rfl (hb hby d3_4) rfl (flt hc2).2.2.1 ?_
      show Steps p.tables e below (s₁.setTop (mkF m 7 #[.val (.int p1)] [])) _
      refine XS.iconst X0.here hx rfl (hb hby d3_7) ?_
      show Steps p.tables e below (s₁.setTop (mkF m 8 #[.val (.int p1)] [(.int (1 : Int32))])) _
      refine XS.goto X0.here hx rfl (pc0 := 8) (pc' := 12) rfl (hb hby d3_8) (by decide) (by decide) ?_
      show Steps p.tables e below (s₁.setTop (mkF m 12 #[.val (.int p1)] [(.int (1 : Int32))])) _
      exact retN X0 hx (t := .boolean) Bd.returns (by simp) (hb hby d3_12) hr
    · show Q3 Z p1 h0 n0 _ s₁.heap _
      rw [e0]
      exact ⟨(by rw [show (own_f3 p1) = (1 : Int32) from by unfold own_f3; rw [if_neg hc2]]), N0, rfl⟩
theorem own_enc (x : Int32) : ¬ (own_f3 ((x &&& (255 : Int32)).toUInt32.toUInt16.toUInt32.toInt32)) = (0 : Int32) := by
  rw [i2c_mask]
  have h := c_and x 255 (by decide)
  unfold own_f3
  rw [if_neg (by rw [Int32.lt_iff_toInt_lt]; exact Int.not_lt.mpr h.2)]
  decide
theorem d4_0 : decode jdk_43_method_46_code 0 = .ok (.iconst 1, 1) := by decide +kernel
theorem d4_1 : decode jdk_43_method_46_code 1 = .ok (.newarray .byte, 2) := by decide +kernel
theorem d4_3 : decode jdk_43_method_46_code 3 = .ok (.dup, 1) := by decide +kernel
theorem d4_4 : decode jdk_43_method_46_code 4 = .ok (.iconst 0, 1) := by decide +kernel
theorem d4_5 : decode jdk_43_method_46_code 5 = .ok (.iload_n 0, 1) := by decide +kernel
theorem d4_6 : decode jdk_43_method_46_code 6 = .ok (.i2b, 1) := by decide +kernel
theorem d4_7 : decode jdk_43_method_46_code 7 = .ok (.bastore, 1) := by decide +kernel
theorem d4_8 : decode jdk_43_method_46_code 8 = .ok (.areturn, 1) := by decide +kernel
theorem pn_4 : plainName "java/lang/StringLatin1" = true := by first | (simp [plainName, overriddenIn]; done) | decide +kernel
theorem ef_4 (m : MethodId) (x0 : Int32) : entryFrame m #[(.int x0)] 1 = mkF m 0 #[.val (.int x0)] [] := by first | (simp [entryFrame, mkF, argsToLocals, Value.category]; done) | rfl
def Q4 (Z : State) (p1 : Int32) (h0 : Heap) (n0 : Nat) (v : Option Value) (h : Heap) (L : List Loc) : Prop := v = some (.ref h0.size) ∧ Fr n0 L ∧ Keep h0 h []
set_option maxRecDepth 65536 in
set_option maxHeartbeats 40000000 in
theorem rm4 (l : Launch) (Z : State) (a0 : Array Value) (hw : ∀ d ∈ tables_1, d.before a0 Z = true) (ws : List Jvm.Cond) (p1 : Int32) (h0 : Heap) (n0 : Nat) (Z0 : n0 ≤ h0.size) :
    MetFree l (⟨"java/lang/StringLatin1", "toBytes", "(C)[B"⟩ : MethodName) (head1 (Jvm.Cond.code (⟨"java/lang/StringLatin1", "toBytes", "(C)[B"⟩ : MethodName) jdk_43_method_46_code 1 (some (.array .byte)) :: ws) ({ frames := 0, cells := 1, slots := 1, locals := 0 } : Room)) (fun a U => a = #[(.int p1)] ∧ Z.Warmed39 U.vm ∧ U.heap = h0) (fun _ _ _ _ _ => True) (fun _ U o U' => ∃ v L, o = .returned v ∧ Q4 Z p1 h0 n0 v U'.heap L ∧ FrameEnd U o U' L ({ frames := 0, cells := 1, slots := 1, locals := 0 } : Room).cells ({ frames := 0, cells := 1, slots := 1, locals := 0 } : Room).slots) := by
  refine MetFree.of_bodySF (plainFor_of_name pn_4) hisR ?_
  intro p e s m args below meth c s₁ Bd hml0 hP hK
  obtain ⟨rfl, hZ, hh⟩ := hP
  have hx := Bd.exec
  have hby := Bd.bytes
  have hml : c.maxLocals = 1 := hml0
  have hown : s.vm.findClass "java/lang/StringLatin1" = some m.cls := findClass_of_methodNamed Bd.named
  have hnm := (name_of_methodNamed Bd.named Bd.method).1
  have X0 : Stand p l e ({ frames := 0, cells := 1, slots := 1, locals := 0 } : Room) s m #[(.int p1)] below meth c s₁ [] 0 0 := Stand.of_body Bd
  have e0 : s₁.heap = h0 := by rw [← hh, Bd.state]; rfl
  have N0 := Fr.nil n0
  have pre0 : ∀ t, Steps p.tables e below (s₁.setTop (mkF m 0 #[.val (.int p1)] [])) t → Steps p.tables e below (s₁.setTop (entryFrame m #[(.int p1)] 1)) t := fun t k => castTop (ef_4 m p1) k
  obtain ⟨T2, h2, k2, X2, e2, E2, A2, st2⟩ := newP X0 hx hZ (hw _ (List.mem_of_getElem? (i := 18) rfl)) e0 (g := (mkF m 1 #[.val (.int p1)] [(.int (1 : Int32))])) rfl (hb hby d4_1) rfl (by decide) (cap := 1) (by decide) (by decide) (by decide) (by decide)
  obtain ⟨b2, g2⟩ : ∃ z, z = h0.size := ⟨_, rfl⟩
  rw [← g2] at A2 st2
  have g_b2 : n0 ≤ b2 := Nat.le_trans Z0 (Nat.le_of_eq g2.symm)
  have sz_b2 : h0.size ≤ b2 := Nat.le_trans (Keep.refl h0 []).1 (Nat.le_of_eq g2.symm)
  have Z2 : n0 ≤ h2.size := Nat.le_trans Z0 E2.1
  have KK2 := (Keep.ext (Keep.refl h0 []) E2)
  have V2 : Arv Z h2 b2 k2 .byte (1 : Int32) [(.int (0 : Int32))] (.int (0 : Int32)) := (Arv.new A2 (by decide)).pad (pad_rep [] (.int (0 : Int32)) 1)
  obtain ⟨cl3, Ar3, q3, Sz3, Nn3, Hh3, Gg3⟩ := id V2
  have hin3 : ¬ ((0 : Int32) < 0 ∨ cl3.slots.size ≤ ((0 : Int32)).toNatClampNeg) := inb_of Sz3 ⟨by decide, by decide⟩
  obtain ⟨T3, h3, X3, e3, W3, st3⟩ := stB X2 hx hZ e2 Ar3 (j := (0 : Int32)) hin3 (g := (mkF m 7 #[.val (.int p1)] [(.int (p1.toInt8.toInt32)), (.int (0 : Int32)), (.ref b2), (.ref b2)])) rfl rfl (hb hby d4_7)
  have Z3 : n0 ≤ h3.size := Nat.le_trans Z2 (Keep.of_wr W3).1
  have KK3 := Keep.wr KK2 W3 (Or.inr sz_b2)
  have N3 := Fr.snoc X3 N0 g_b2
  have V3 : Arv Z h3 b2 k2 .byte (1 : Int32) [(.int ((p1.toInt8.toInt32).toInt8.toInt32))] (.int (0 : Int32)) := Arv.set Ar3 q3 Sz3 Nn3 Hh3 Gg3 (fits_nar_byte _) W3 0 rfl (Nat.le_of_ble_eq_true rfl)
  obtain ⟨fs, hr, hrun, hended, hW, hsame⟩ := X3.leave (v := some (.ref b2)) (fun h => by rw [Bd.returns] at h; cases h)
  refine ⟨_, _, pre0 _ ?_, hrun, hended, _, _, rfl, ?_, ⟨_, rfl⟩, hW, hsame.mono (by decide) (by decide)⟩
  · show Steps p.tables e below (s₁.setTop (mkF m 0 #[.val (.int p1)] [])) _
    refine XS.iconst X0.here hx rfl (hb hby d4_0) ?_
    show Steps p.tables e below (s₁.setTop (mkF m 1 #[.val (.int p1)] [(.int (1 : Int32))])) _
    refine st2 _ ?_
    show Steps p.tables e below (T2.setTop (mkF m 3 #[.val (.int p1)] [(.ref b2)])) _
    refine XS.dup X2.here hx rfl (hb hby d4_3) rfl rfl ?_
    show Steps p.tables e below (T2.setTop (mkF m 4 #[.val (.int p1)] [(.ref b2), (.ref b2)])) _
    refine XS.iconst X2.here hx rfl (hb hby d4_4) ?_
    show Steps p.tables e below (T2.setTop (mkF m 5 #[.val (.int p1)] [(.int (0 : Int32)), (.ref b2), (.ref b2)])) _
    refine XS.iloadN X2.here hx rfl (hb hby d4_5) rfl ?_
    show Steps p.tables e below (T2.setTop (mkF m 6 #[.val (.int p1)] [(.int p1), (.int (0 : Int32)), (.ref b2), (.ref b2)])) _
    refine XS.i2b X2.here hx rfl (hb hby d4_6) rfl ?_
    show Steps p.tables e below (T2.setTop (mkF m 7 #[.val (.int p1)] [(.int (p1.toInt8.toInt32)), (.int (0 : Int32)), (.ref b2), (.ref b2)])) _
    refine st3 _ ?_
    show Steps p.tables e below (T3.setTop (mkF m 8 #[.val (.int p1)] [(.ref b2)])) _
    exact retOut X3 hx Bd.returns rfl (Or.inr (Or.inr (Or.inr (Or.inr ⟨rfl, rfl, rfl⟩)))) (hb hby d4_8) hr
  · show Q4 Z p1 h0 n0 _ T3.heap _
    rw [e3]
    exact (by subst g2; exact ⟨rfl, N3, KK3⟩)
theorem d5_0 : decode jdk_42_method_151_code 0 = .ok (.aload_n 0, 1) := by decide +kernel
theorem d5_1 : decode jdk_42_method_151_code 1 = .ok (.invokespecial 1, 3) := by decide +kernel
theorem d5_4 : decode jdk_42_method_151_code 4 = .ok (.aload_n 0, 1) := by decide +kernel
theorem d5_5 : decode jdk_42_method_151_code 5 = .ok (.aload_n 1, 1) := by decide +kernel
theorem d5_6 : decode jdk_42_method_151_code 6 = .ok (.putfield 9, 3) := by decide +kernel
theorem d5_9 : decode jdk_42_method_151_code 9 = .ok (.aload_n 0, 1) := by decide +kernel
theorem d5_10 : decode jdk_42_method_151_code 10 = .ok (.iload_n 2, 1) := by decide +kernel
theorem d5_11 : decode jdk_42_method_151_code 11 = .ok (.putfield 15, 3) := by decide +kernel
theorem d5_14 : decode jdk_42_method_151_code 14 = .ok (.return_, 1) := by decide +kernel
theorem pn_5 : plainName "java/lang/String" = true := by first | (simp [plainName, overriddenIn]; done) | decide +kernel
theorem ef_5 (m : MethodId) (x0 : Addr) (x1 : Addr) (x2 : Int32) : entryFrame m #[(.ref x0), (.ref x1), (.int x2)] 3 = mkF m 0 #[.val (.ref x0), .val (.ref x1), .val (.int x2)] [] := by first | (simp [entryFrame, mkF, argsToLocals, Value.category]; done) | rfl
def Q5 (Z : State) (a1 : Addr) (a2 : Addr) (p3 : Int32) (u_value : Value) (u_coder : Value) (h0 : Heap) (n0 : Nat) (v : Option Value) (h : Heap) (L : List Loc) : Prop := v = none ∧ Fr n0 L ∧ Keep h0 h [a1] ∧ Exa Z h a1 "java/lang/String" ∧ Fld Z h a1 "java/lang/String" "value" "[B" (.ref a2) ∧ Fld Z h a1 "java/lang/String" "coder" "B" (.int (p3.toInt8.toInt32))
set_option maxRecDepth 65536 in
set_option maxHeartbeats 40000000 in
theorem rm5 (l : Launch) (Z : State) (a0 : Array Value) (hw : ∀ d ∈ tables_1, d.before a0 Z = true) (ws : List Jvm.Cond) (a1 : Addr) (a2 : Addr) (p3 : Int32) (u_value : Value) (u_coder : Value) (h0 : Heap) (n0 : Nat) (Z0 : n0 ≤ h0.size) (g_a1 : n0 ≤ a1) (E_a1 : Exa Z h0 a1 "java/lang/String") (F_value_a1 : Fld Z h0 a1 "java/lang/String" "value" "[B" u_value) (F_coder_a1 : Fld Z h0 a1 "java/lang/String" "coder" "B" u_coder) :
    MetFree l (⟨"java/lang/String", "<init>", "([BB)V"⟩ : MethodName) (head1 (Jvm.Cond.code (⟨"java/lang/String", "<init>", "([BB)V"⟩ : MethodName) jdk_42_method_151_code 3 none :: ws) ({ frames := 1, cells := 0, slots := 0, locals := 12 } : Room)) (fun a U => a = #[(.ref a1), (.ref a2), (.int p3)] ∧ Z.Warmed39 U.vm ∧ U.heap = h0) (fun _ _ _ _ _ => True) (fun _ U o U' => ∃ v L, o = .returned v ∧ Q5 Z a1 a2 p3 u_value u_coder h0 n0 v U'.heap L ∧ FrameEnd U o U' L ({ frames := 1, cells := 0, slots := 0, locals := 12 } : Room).cells ({ frames := 1, cells := 0, slots := 0, locals := 12 } : Room).slots) := by
  refine MetFree.of_bodySF (plainFor_of_name pn_5) hisR ?_
  intro p e s m args below meth c s₁ Bd hml0 hP hK
  obtain ⟨rfl, hZ, hh⟩ := hP
  have hx := Bd.exec
  have hby := Bd.bytes
  have hml : c.maxLocals = 3 := hml0
  have hown : s.vm.findClass "java/lang/String" = some m.cls := findClass_of_methodNamed Bd.named
  have hnm := (name_of_methodNamed Bd.named Bd.method).1
  have X0 : Stand p l e ({ frames := 1, cells := 0, slots := 0, locals := 12 } : Room) s m #[(.ref a1), (.ref a2), (.int p3)] below meth c s₁ [] 0 0 := Stand.of_body Bd
  have e0 : s₁.heap = h0 := by rw [← hh, Bd.state]; rfl
  have N0 := Fr.nil n0
  have pre0 : ∀ t, Steps p.tables e below (s₁.setTop (mkF m 0 #[.val (.ref a1), .val (.ref a2), .val (.int p3)] [])) t → Steps p.tables e below (s₁.setTop (entryFrame m #[(.ref a1), (.ref a2), (.int p3)] 3)) t := fun t k => castTop (ef_5 m a1 a2 p3) k
  obtain ⟨T4, X4, e4, st4⟩ := initO X0 hx hZ hown (hw _ (List.mem_of_getElem? (i := 23) rfl)) (hw _ (List.mem_of_getElem? (i := 24) rfl)) (hw _ (List.mem_of_getElem? (i := 25) rfl)) e0 (g := (mkF m 1 #[.val (.ref a1), .val (.ref a2), .val (.int p3)] [(.ref a1)])) rfl (by rw [hml]; rfl) rfl (hb hby d5_1) (by decide) (W := 0) (by show 2 * 0 + _ ≤ _; exact Nat.le_of_eq rfl) (by decide)
  obtain ⟨T5, h5, X5, e5, W5, st5⟩ := putF X4 hx hZ hown (host := "") (Or.inl (hw _ (List.mem_of_getElem? (i := 26) rfl))) Via.refl e4 F_value_a1 E_a1 (Or.inr ⟨(hw _ (List.mem_of_getElem? (i := 27) rfl)), rfl, hnm⟩) (hw _ (List.mem_of_getElem? (i := 14) rfl)) (ty := (.array .byte)) (by decide) rfl rfl (g := (mkF m 6 #[.val (.ref a1), .val (.ref a2), .val (.int p3)] [(.ref a2), (.ref a1)])) rfl rfl (hb hby d5_6)
  have Z5 : n0 ≤ h5.size := Nat.le_trans Z0 (Keep.of_wr W5).1
  have KK5 := Keep.wr (Keep.refl h0 [a1]) W5 (Or.inl (List.mem_of_getElem? (i := 0) rfl))
  have N5 := Fr.snoc X5 N0 g_a1
  have Fw5 := Fld.same W5 F_value_a1
  have f7 := (Exa.wr W5 E_a1)
  have f8 := (Fld.other W5 F_coder_a1 (Or.inr (slot_ne (Or.inr (hw _ (List.mem_of_getElem? (i := 29) rfl))) (Or.inr (hw _ (List.mem_of_getElem? (i := 27) rfl))) (by decide) (t := .byte) (t' := (.array .byte)) (by decide) (by decide))))
  obtain ⟨T6, h6, X6, e6, W6, st6⟩ := putFN X5 hx hZ hown (hw _ (List.mem_of_getElem? (i := 28) rfl)) Via.refl e5 f8 f7 (Or.inr ⟨(hw _ (List.mem_of_getElem? (i := 29) rfl)), rfl, hnm⟩) (hw _ (List.mem_of_getElem? (i := 14) rfl)) (ty := .byte) (v' := (.int (p3.toInt8.toInt32))) (by decide) rfl (fits_nar_byte _) (g := (mkF m 11 #[.val (.ref a1), .val (.ref a2), .val (.int p3)] [(.int p3), (.ref a1)])) rfl rfl (hb hby d5_11)
  have Z6 : n0 ≤ h6.size := Nat.le_trans Z5 (Keep.of_wr W6).1
  have KK6 := Keep.wr KK5 W6 (Or.inl (List.mem_of_getElem? (i := 0) rfl))
  have N6 := Fr.snoc X6 N5 g_a1
  have Fw6 := Fld.same W6 f8
  obtain ⟨fs, hr, hrun, hended, hW, hsame⟩ := X6.leave (v := none) (fun _ => rfl)
  have f9 := (Exa.wr W6 f7)
  have f10 := (Fld.other W6 Fw5 (Or.inr (slot_ne (Or.inr (hw _ (List.mem_of_getElem? (i := 27) rfl))) (Or.inr (hw _ (List.mem_of_getElem? (i := 29) rfl))) (by decide) (t := (.array .byte)) (t' := .byte) (by decide) (by decide))))
  refine ⟨_, _, pre0 _ ?_, hrun, hended, _, _, rfl, ?_, ⟨_, rfl⟩, hW, hsame.mono (by decide) (by decide)⟩
  · show Steps p.tables e below (s₁.setTop (mkF m 0 #[.val (.ref a1), .val (.ref a2), .val (.int p3)] [])) _
    refine XS.aloadN X0.here hx rfl (hb hby d5_0) rfl rfl ?_
    show Steps p.tables e below (s₁.setTop (mkF m 1 #[.val (.ref a1), .val (.ref a2), .val (.int p3)] [(.ref a1)])) _
    refine st4 _ ?_
    show Steps p.tables e below (T4.setTop (mkF m 4 #[.val (.ref a1), .val (.ref a2), .val (.int p3)] [])) _
    refine XS.aloadN X4.here hx rfl (hb hby d5_4) rfl rfl ?_
    show Steps p.tables e below (T4.setTop (mkF m 5 #[.val (.ref a1), .val (.ref a2), .val (.int p3)] [(.ref a1)])) _
    refine XS.aloadN X4.here hx rfl (hb hby d5_5) rfl rfl ?_
    show Steps p.tables e below (T4.setTop (mkF m 6 #[.val (.ref a1), .val (.ref a2), .val (.int p3)] [(.ref a2), (.ref a1)])) _
    refine st5 _ ?_
    show Steps p.tables e below (T5.setTop (mkF m 9 #[.val (.ref a1), .val (.ref a2), .val (.int p3)] [])) _
    refine XS.aloadN X5.here hx rfl (hb hby d5_9) rfl rfl ?_
    show Steps p.tables e below (T5.setTop (mkF m 10 #[.val (.ref a1), .val (.ref a2), .val (.int p3)] [(.ref a1)])) _
    refine XS.iloadN X5.here hx rfl (hb hby d5_10) rfl ?_
    show Steps p.tables e below (T5.setTop (mkF m 11 #[.val (.ref a1), .val (.ref a2), .val (.int p3)] [(.int p3), (.ref a1)])) _
    refine st6 _ ?_
    show Steps p.tables e below (T6.setTop (mkF m 14 #[.val (.ref a1), .val (.ref a2), .val (.int p3)] [])) _
    exact X6.returnOut hx Bd.returns (hb hby d5_14) hr
  · show Q5 Z a1 a2 p3 u_value u_coder h0 n0 _ T6.heap _
    rw [e6]
    exact ⟨rfl, N6, KK6, f9, f10, Fw6⟩
theorem d2_0 : decode jdk_42_method_139_code 0 = .ok (.getstatic 38, 3) := by decide +kernel
theorem d2_3 : decode jdk_42_method_139_code 3 = .ok (.ifCond .eq 23, 3) := by decide +kernel
theorem d2_6 : decode jdk_42_method_139_code 6 = .ok (.iload_n 0, 1) := by decide +kernel
theorem d2_7 : decode jdk_42_method_139_code 7 = .ok (.invokestatic 1015, 3) := by decide +kernel
theorem d2_10 : decode jdk_42_method_139_code 10 = .ok (.ifCond .eq 16, 3) := by decide +kernel
theorem d2_13 : decode jdk_42_method_139_code 13 = .ok (.new 10, 3) := by decide +kernel
theorem d2_16 : decode jdk_42_method_139_code 16 = .ok (.dup, 1) := by decide +kernel
theorem d2_17 : decode jdk_42_method_139_code 17 = .ok (.iload_n 0, 1) := by decide +kernel
theorem d2_18 : decode jdk_42_method_139_code 18 = .ok (.invokestatic 1018, 3) := by decide +kernel
theorem d2_21 : decode jdk_42_method_139_code 21 = .ok (.iconst 0, 1) := by decide +kernel
theorem d2_22 : decode jdk_42_method_139_code 22 = .ok (.invokespecial 209, 3) := by decide +kernel
theorem d2_25 : decode jdk_42_method_139_code 25 = .ok (.areturn, 1) := by decide +kernel
theorem pn_2 : plainName "java/lang/String" = true := by first | (simp [plainName, overriddenIn]; done) | decide +kernel
theorem pd_2_0 : parseMethodDescriptor "(C)Z" = some ⟨[.char], some .boolean⟩ := by decide +kernel
theorem pd_2_1 : parseMethodDescriptor "(C)[B" = some ⟨[.char], some (.array .byte)⟩ := by decide +kernel
theorem pd_2_2 : parseMethodDescriptor "([BB)V" = some ⟨[(.array .byte), .byte], none⟩ := by decide +kernel
theorem ef_2 (m : MethodId) (x0 : Int32) : entryFrame m #[(.int x0)] 1 = mkF m 0 #[.val (.int x0)] [] := by first | (simp [entryFrame, mkF, argsToLocals, Value.category]; done) | rfl
def Q2 (Z : State) (p1 : Int32) (s_COMPACT_STRINGS : Int32) (h0 : Heap) (n0 : Nat) (v : Option Value) (h : Heap) (L : List Loc) : Prop := v = some (.ref h0.size) ∧ Fr n0 L ∧ Keep h0 h [] ∧ Exa Z h h0.size "java/lang/String"
set_option maxRecDepth 65536 in
set_option maxHeartbeats 40000000 in
theorem rm2 (l : Launch) (Z : State) (a0 : Array Value) (hw : ∀ d ∈ tables_1, d.before a0 Z = true) (ws : List Jvm.Cond) (p1 : Int32) (s_COMPACT_STRINGS : Int32) (h0 : Heap) (n0 : Nat) (Z0 : n0 ≤ h0.size) (S_COMPACT_STRINGS : Sta Z h0 "java/lang/String" "COMPACT_STRINGS" "Z" (.int s_COMPACT_STRINGS)) (hq3_1 : ¬ (s_COMPACT_STRINGS = (0 : Int32))) (hq10_2 : ¬ ((own_f3 p1) = (0 : Int32))) :
    MetFree l (⟨"java/lang/String", "valueOf", "(C)Ljava/lang/String;"⟩ : MethodName) (head1 (Jvm.Cond.code (⟨"java/lang/String", "valueOf", "(C)Ljava/lang/String;"⟩ : MethodName) jdk_42_method_139_code 1 (some (.object "java/lang/String")) :: ws) ({ frames := 2, cells := 2, slots := 5, locals := 27 } : Room)) (fun a U => a = #[(.int p1)] ∧ Z.Warmed39 U.vm ∧ U.heap = h0) (fun _ _ _ _ _ => True) (fun _ U o U' => ∃ v L, o = .returned v ∧ Q2 Z p1 s_COMPACT_STRINGS h0 n0 v U'.heap L ∧ FrameEnd U o U' L ({ frames := 2, cells := 2, slots := 5, locals := 27 } : Room).cells ({ frames := 2, cells := 2, slots := 5, locals := 27 } : Room).slots) := by
  refine MetFree.of_bodySF (plainFor_of_name pn_2) hisR ?_
  intro p e s m args below meth c s₁ Bd hml0 hP hK
  obtain ⟨rfl, hZ, hh⟩ := hP
  have hx := Bd.exec
  have hby := Bd.bytes
  have hml : c.maxLocals = 1 := hml0
  have hown : s.vm.findClass "java/lang/String" = some m.cls := findClass_of_methodNamed Bd.named
  have hnm := (name_of_methodNamed Bd.named Bd.method).1
  have X0 : Stand p l e ({ frames := 2, cells := 2, slots := 5, locals := 27 } : Room) s m #[(.int p1)] below meth c s₁ [] 0 0 := Stand.of_body Bd
  have e0 : s₁.heap = h0 := by rw [← hh, Bd.state]; rfl
  have N0 := Fr.nil n0
  have pre0 : ∀ t, Steps p.tables e below (s₁.setTop (mkF m 0 #[.val (.int p1)] [])) t → Steps p.tables e below (s₁.setTop (entryFrame m #[(.int p1)] 1)) t := fun t k => castTop (ef_2 m p1) k
  obtain ⟨T2, X2, e2, st2⟩ := getS2 X0 hx hZ hown (host := "") (Or.inl (hw _ (List.mem_of_getElem? (i := 8) rfl))) Via.refl e0 S_COMPACT_STRINGS (g := (mkF m 0 #[.val (.int p1)] [])) rfl (hb hby d2_0)
  obtain ⟨_, _, ⟨T3, L3, k3, n3⟩, -, X3, ⟨Lc3, hQ3, l3, y3, z3⟩, st3⟩ := Jvm.LawKit.callS X2 hx (y := (⟨"java/lang/StringLatin1", "canEncode", "(C)Z"⟩ : MethodName)) hown (mvT hZ (hw _ (List.mem_of_getElem? (i := 9) rfl))) (mvT hZ (hw _ (List.mem_of_getElem? (i := 10) rfl))) (mvT hZ (hw _ (List.mem_of_getElem? (i := 11) rfl))) (mvT hZ (hw _ (List.mem_of_getElem? (i := 12) rfl))) (by decide) (backOf (W := 0) (rm3 l Z a0 hw [] p1 h0 n0 Z0) hZ (hw _ (List.mem_of_getElem? (i := 12) rfl)) (hw _ (List.mem_of_getElem? (i := 11) rfl)) (by decide) (by decide)) (g := (mkF m 7 #[.val (.int p1)] [(.int p1)])) rfl (by rw [hml]; rfl) (argsL := [(.int p1)]) (rest := []) (lenOf pd_2_0 rfl) rfl (by show 2 * 0 + _ ≤ _; exact Nat.le_of_eq rfl) (hb hby d2_7) (fun _ _ => ⟨rfl, e2, (by decide : 0 + 0 ≤ _), (by decide : 0 + 0 ≤ _)⟩)
  dsimp only [Pt.U, Pt.locs, Pt.cells, Pt.slots] at X3 l3 y3 z3 st3 hQ3
  subst l3 y3 z3
  obtain ⟨rfl, N3q, e3⟩ := hQ3
  have N3 := Fr.app N0 N3q
  obtain ⟨T4, h4, X4, e4, E4, A4, D4, -, st4⟩ := newO X3 hx hZ hown (hw _ (List.mem_of_getElem? (i := 13) rfl)) (hw _ (List.mem_of_getElem? (i := 14) rfl)) (hw _ (List.mem_of_getElem? (i := 6) rfl)) e3 (g := (mkF m 13 #[.val (.int p1)] [])) rfl (hb hby d2_13) (by decide) (by decide)
  obtain ⟨b4, g4⟩ : ∃ z, z = h0.size := ⟨_, rfl⟩
  rw [← g4] at A4 D4 st4
  have g_b4 : n0 ≤ b4 := Nat.le_trans Z0 (Nat.le_of_eq g4.symm)
  have sz_b4 : h0.size ≤ b4 := Nat.le_trans (Keep.refl h0 []).1 (Nat.le_of_eq g4.symm)
  have Z4 : n0 ≤ h4.size := Nat.le_trans Z0 E4.1
  have KK4 := (Keep.ext (Keep.refl h0 []) E4)
  have F4_value : Fld Z h4 b4 "java/lang/String" "value" "[B" .null := D4 (Or.inr (hw _ (List.mem_of_getElem? (i := 27) rfl))) (ty := (.array .byte)) (by decide)
  have F4_coder : Fld Z h4 b4 "java/lang/String" "coder" "B" (.int (0 : Int32)) := D4 (Or.inr (hw _ (List.mem_of_getElem? (i := 29) rfl))) (ty := .byte) (by decide)
  obtain ⟨_, _, ⟨T5, L5, k5, n5⟩, -, X5, ⟨Lc5, hQ5, l5, y5, z5⟩, st5⟩ := Jvm.LawKit.callS X4 hx (y := (⟨"java/lang/StringLatin1", "toBytes", "(C)[B"⟩ : MethodName)) hown (mvT hZ (hw _ (List.mem_of_getElem? (i := 15) rfl))) (mvT hZ (hw _ (List.mem_of_getElem? (i := 16) rfl))) (mvT hZ (hw _ (List.mem_of_getElem? (i := 11) rfl))) (mvT hZ (hw _ (List.mem_of_getElem? (i := 17) rfl))) (by decide) (backOf (W := 2) (rm4 l Z a0 hw [] p1 h4 n0 Z4) hZ (hw _ (List.mem_of_getElem? (i := 17) rfl)) (hw _ (List.mem_of_getElem? (i := 11) rfl)) (by decide) (by decide)) (g := (mkF m 18 #[.val (.int p1)] [(.int p1), (.ref b4), (.ref b4)])) rfl (by rw [hml]; rfl) (argsL := [(.int p1)]) (rest := [(.ref b4), (.ref b4)]) (lenOf pd_2_1 rfl) rfl (by show 2 * 0 + _ ≤ _; exact Nat.le_of_eq rfl) (hb hby d2_18) (fun _ _ => ⟨rfl, e4, (by decide : 1 + 1 ≤ _), (by decide : 4 + 1 ≤ _)⟩)
  dsimp only [Pt.U, Pt.locs, Pt.cells, Pt.slots] at X5 l5 y5 z5 st5 hQ5
  subst l5 y5 z5
  obtain ⟨rfl, N5q, K5⟩ := hQ5
  have N5 := Fr.app N3 N5q
  obtain ⟨b5, g5⟩ : ∃ z, z = h4.size := ⟨_, rfl⟩
  rw [← g5] at st5
  have g_b5 : n0 ≤ b5 := Nat.le_trans Z4 (Nat.le_of_eq g5.symm)
  have sz_b5 : h0.size ≤ b5 := Nat.le_trans KK4.1 (Nat.le_of_eq g5.symm)
  have Z5 : n0 ≤ T5.heap.size := Nat.le_trans Z4 K5.1
  have KK5 := Keep.trans KK4 K5 all0
  have f7 := (Exa.keep A4 K5)
  have f8 := (Fld.keep F4_value K5 nin0)
  have f9 := (Fld.keep F4_coder K5 nin0)
  obtain ⟨_, _, ⟨T6, L6, k6, n6⟩, -, X6, ⟨Lc6, hQ6, l6, y6, z6⟩, st6⟩ := X5.specialBack hx (y := (⟨"java/lang/String", "<init>", "([BB)V"⟩ : MethodName)) rfl hown (mvT hZ (hw _ (List.mem_of_getElem? (i := 19) rfl))) (mvT hZ (hw _ (List.mem_of_getElem? (i := 20) rfl))) (mvT hZ (hw _ (List.mem_of_getElem? (i := 22) rfl))) (by decide) (backOf (W := 1) (rm5 l Z a0 hw [] b4 b5 (0 : Int32) .null (.int (0 : Int32)) T5.heap n0 Z5 g_b4 f7 f8 f9) hZ (hw _ (List.mem_of_getElem? (i := 22) rfl)) (hw _ (List.mem_of_getElem? (i := 6) rfl)) (by decide) (by decide)) (g := (mkF m 22 #[.val (.int p1)] [(.int (0 : Int32)), (.ref b5), (.ref b4), (.ref b4)])) rfl (by rw [hml]; rfl) (Steps.refl _) (a := b4) (argsL := [(.ref b5), (.int (0 : Int32))]) (rest := [(.ref b4)]) (lenOf pd_2_2 rfl) rfl (by show 2 * 0 + _ ≤ _; exact Nat.le_of_eq rfl) (hb hby d2_22) (fun _ _ => ⟨rfl, rfl, (by decide : 2 + 0 ≤ _), (by decide : 5 + 0 ≤ _)⟩)
  dsimp only [Pt.U, Pt.locs, Pt.cells, Pt.slots] at X6 l6 y6 z6 st6 hQ6
  subst l6 y6 z6
  obtain ⟨rfl, N6q, K6, A6, G6_value, G6_coder⟩ := hQ6
  have N6 := Fr.app N5 N6q
  have Z6 : n0 ≤ T6.heap.size := Nat.le_trans Z5 K6.1
  have KK6 := Keep.trans KK5 K6 (allS (Or.inr sz_b4) all0)
  obtain ⟨fs, hr, hrun, hended, hW, hsame⟩ := X6.leave (v := some (.ref b4)) (fun h => by rw [Bd.returns] at h; cases h)
  refine ⟨_, _, pre0 _ ?_, hrun, hended, _, _, rfl, ?_, ⟨_, rfl⟩, hW, hsame.mono (by decide) (by decide)⟩
  · show Steps p.tables e below (s₁.setTop (mkF m 0 #[.val (.int p1)] [])) _
    refine st2 _ ?_
    show Steps p.tables e below (T2.setTop (mkF m 3 #[.val (.int p1)] [(.int s_COMPACT_STRINGS)])) _
    refine XS.ifNo X2.here hx rfl (hb hby d2_3) rfl ((if0 _ _).trans (feq (hq3_1)).1) ?_
    show Steps p.tables e below (T2.setTop (mkF m 6 #[.val (.int p1)] [])) _
    refine XS.iloadN X2.here hx rfl (hb hby d2_6) rfl ?_
    show Steps p.tables e below (T2.setTop (mkF m 7 #[.val (.int p1)] [(.int p1)])) _
    refine st3 _ ?_
    show Steps p.tables e below (T3.setTop (mkF m 10 #[.val (.int p1)] [(.int (own_f3 p1))])) _
    refine XS.ifNo X3.here hx rfl (hb hby d2_10) rfl ((if0 _ _).trans (feq (hq10_2)).1) ?_
    show Steps p.tables e below (T3.setTop (mkF m 13 #[.val (.int p1)] [])) _
    refine st4 _ ?_
    show Steps p.tables e below (T4.setTop (mkF m 16 #[.val (.int p1)] [(.ref b4)])) _
    refine XS.dup X4.here hx rfl (hb hby d2_16) rfl rfl ?_
    show Steps p.tables e below (T4.setTop (mkF m 17 #[.val (.int p1)] [(.ref b4), (.ref b4)])) _
    refine XS.iloadN X4.here hx rfl (hb hby d2_17) rfl ?_
    show Steps p.tables e below (T4.setTop (mkF m 18 #[.val (.int p1)] [(.int p1), (.ref b4), (.ref b4)])) _
    refine st5 _ ?_
    show Steps p.tables e below (T5.setTop (mkF m 21 #[.val (.int p1)] [(.ref b5), (.ref b4), (.ref b4)])) _
    refine XS.iconst X5.here hx rfl (hb hby d2_21) ?_
    show Steps p.tables e below (T5.setTop (mkF m 22 #[.val (.int p1)] [(.int (0 : Int32)), (.ref b5), (.ref b4), (.ref b4)])) _
    refine st6.trans ?_
    show Steps p.tables e below (T6.setTop (mkF m 25 #[.val (.int p1)] [(.ref b4)])) _
    exact retOut X6 hx Bd.returns rfl (Or.inr (Or.inr (Or.inr (Or.inr ⟨rfl, rfl, rfl⟩)))) (hb hby d2_25) hr
  · show Q2 Z p1 s_COMPACT_STRINGS h0 n0 _ T6.heap _
    exact (by subst g4; exact ⟨rfl, N6, KK6, A6⟩)
theorem d1_0 : decode method_2_code 0 = .ok (.iload_n 0, 1) := by decide +kernel
theorem d1_1 : decode method_2_code 1 = .ok (.iload_n 1, 1) := by decide +kernel
theorem d1_2 : decode method_2_code 2 = .ok (.iushr, 1) := by decide +kernel
theorem d1_3 : decode method_2_code 3 = .ok (.sipush 255, 3) := by decide +kernel
theorem d1_6 : decode method_2_code 6 = .ok (.iand, 1) := by decide +kernel
theorem d1_7 : decode method_2_code 7 = .ok (.i2c, 1) := by decide +kernel
theorem d1_8 : decode method_2_code 8 = .ok (.invokestatic 7, 3) := by decide +kernel
theorem d1_11 : decode method_2_code 11 = .ok (.areturn, 1) := by decide +kernel
theorem pn_1 : plainName "com/example/longpole/longpole/SpanWithServicePinLaw" = true := by first | (simp [plainName, overriddenIn]; done) | decide +kernel
theorem pd_1_0 : parseMethodDescriptor "(C)Ljava/lang/String;" = some ⟨[.char], some (.object "java/lang/String")⟩ := by decide +kernel
theorem ef_1 (m : MethodId) (x0 : Int32) (x1 : Int32) : entryFrame m #[(.int x0), (.int x1)] 2 = mkF m 0 #[.val (.int x0), .val (.int x1)] [] := by first | (simp [entryFrame, mkF, argsToLocals, Value.category]; done) | rfl
def Q1 (Z : State) (p1 : Int32) (p2 : Int32) (s_COMPACT_STRINGS : Int32) (h0 : Heap) (n0 : Nat) (v : Option Value) (h : Heap) (L : List Loc) : Prop := v = some (.ref h0.size) ∧ Fr n0 L ∧ Keep h0 h [] ∧ Exa Z h h0.size "java/lang/String"
set_option maxRecDepth 65536 in
set_option maxHeartbeats 40000000 in
theorem rm1 (l : Launch) (Z : State) (a0 : Array Value) (hw : ∀ d ∈ tables_1, d.before a0 Z = true) (ws : List Jvm.Cond) (p1 : Int32) (p2 : Int32) (s_COMPACT_STRINGS : Int32) (h0 : Heap) (n0 : Nat) (Z0 : n0 ≤ h0.size) (S_COMPACT_STRINGS : Sta Z h0 "java/lang/String" "COMPACT_STRINGS" "Z" (.int s_COMPACT_STRINGS)) (hq_2_hq3_1 : ¬ (s_COMPACT_STRINGS = (0 : Int32))) :
    MetFree l (⟨"com/example/longpole/longpole/SpanWithServicePinLaw", "str", "(II)Ljava/lang/String;"⟩ : MethodName) (head1 (Jvm.Cond.code (⟨"com/example/longpole/longpole/SpanWithServicePinLaw", "str", "(II)Ljava/lang/String;"⟩ : MethodName) method_2_code 2 (some (.object "java/lang/String")) :: ws) ({ frames := 3, cells := 2, slots := 5, locals := 39 } : Room)) (fun a U => a = #[(.int p1), (.int p2)] ∧ Z.Warmed39 U.vm ∧ U.heap = h0) (fun _ _ _ _ _ => True) (fun _ U o U' => ∃ v L, o = .returned v ∧ Q1 Z p1 p2 s_COMPACT_STRINGS h0 n0 v U'.heap L ∧ FrameEnd U o U' L ({ frames := 3, cells := 2, slots := 5, locals := 39 } : Room).cells ({ frames := 3, cells := 2, slots := 5, locals := 39 } : Room).slots) := by
  refine MetFree.of_bodySF (plainFor_of_name pn_1) hisR ?_
  intro p e s m args below meth c s₁ Bd hml0 hP hK
  obtain ⟨rfl, hZ, hh⟩ := hP
  have hx := Bd.exec
  have hby := Bd.bytes
  have hml : c.maxLocals = 2 := hml0
  have hown : s.vm.findClass "com/example/longpole/longpole/SpanWithServicePinLaw" = some m.cls := findClass_of_methodNamed Bd.named
  have hnm := (name_of_methodNamed Bd.named Bd.method).1
  have X0 : Stand p l e ({ frames := 3, cells := 2, slots := 5, locals := 39 } : Room) s m #[(.int p1), (.int p2)] below meth c s₁ [] 0 0 := Stand.of_body Bd
  have e0 : s₁.heap = h0 := by rw [← hh, Bd.state]; rfl
  have N0 := Fr.nil n0
  have pre0 : ∀ t, Steps p.tables e below (s₁.setTop (mkF m 0 #[.val (.int p1), .val (.int p2)] [])) t → Steps p.tables e below (s₁.setTop (entryFrame m #[(.int p1), (.int p2)] 2)) t := fun t k => castTop (ef_1 m p1 p2) k
  obtain ⟨_, _, ⟨T3, L3, k3, n3⟩, -, X3, ⟨Lc3, hQ3, l3, y3, z3⟩, st3⟩ := Jvm.LawKit.callS X0 hx (y := (⟨"java/lang/String", "valueOf", "(C)Ljava/lang/String;"⟩ : MethodName)) hown (mvT hZ (hw _ (List.mem_of_getElem? (i := 4) rfl))) (mvT hZ (hw _ (List.mem_of_getElem? (i := 5) rfl))) (mvT hZ (hw _ (List.mem_of_getElem? (i := 6) rfl))) (mvT hZ (hw _ (List.mem_of_getElem? (i := 7) rfl))) (by decide) (backOf (W := 0) (rm2 l Z a0 hw [] ((((p1.toUInt32 >>> (p2 &&& 31).toUInt32).toInt32) &&& (255 : Int32)).toUInt32.toUInt16.toUInt32.toInt32) s_COMPACT_STRINGS h0 n0 Z0 S_COMPACT_STRINGS hq_2_hq3_1 (own_enc _)) hZ (hw _ (List.mem_of_getElem? (i := 7) rfl)) (hw _ (List.mem_of_getElem? (i := 6) rfl)) (by decide) (by decide)) (g := (mkF m 8 #[.val (.int p1), .val (.int p2)] [(.int ((((p1.toUInt32 >>> (p2 &&& 31).toUInt32).toInt32) &&& (255 : Int32)).toUInt32.toUInt16.toUInt32.toInt32))])) rfl (by rw [hml]; rfl) (argsL := [(.int ((((p1.toUInt32 >>> (p2 &&& 31).toUInt32).toInt32) &&& (255 : Int32)).toUInt32.toUInt16.toUInt32.toInt32))]) (rest := []) (lenOf pd_1_0 rfl) rfl (by show 2 * 0 + _ ≤ _; exact Nat.le_of_eq rfl) (hb hby d1_8) (fun _ _ => ⟨rfl, e0, (by decide : 0 + 2 ≤ _), (by decide : 0 + 5 ≤ _)⟩)
  dsimp only [Pt.U, Pt.locs, Pt.cells, Pt.slots] at X3 l3 y3 z3 st3 hQ3
  subst l3 y3 z3
  obtain ⟨rfl, N3q, K3, A3⟩ := hQ3
  have N3 := Fr.app N0 N3q
  obtain ⟨b3, g3⟩ : ∃ z, z = h0.size := ⟨_, rfl⟩
  rw [← g3] at st3 A3
  have g_b3 : n0 ≤ b3 := Nat.le_trans Z0 (Nat.le_of_eq g3.symm)
  have sz_b3 : h0.size ≤ b3 := Nat.le_trans (Keep.refl h0 []).1 (Nat.le_of_eq g3.symm)
  have Z3 : n0 ≤ T3.heap.size := Nat.le_trans Z0 K3.1
  have KK3 := Keep.trans (Keep.refl h0 []) K3 all0
  obtain ⟨fs, hr, hrun, hended, hW, hsame⟩ := X3.leave (v := some (.ref b3)) (fun h => by rw [Bd.returns] at h; cases h)
  refine ⟨_, _, pre0 _ ?_, hrun, hended, _, _, rfl, ?_, ⟨_, rfl⟩, hW, hsame.mono (by decide) (by decide)⟩
  · show Steps p.tables e below (s₁.setTop (mkF m 0 #[.val (.int p1), .val (.int p2)] [])) _
    refine XS.iloadN X0.here hx rfl (hb hby d1_0) rfl ?_
    show Steps p.tables e below (s₁.setTop (mkF m 1 #[.val (.int p1), .val (.int p2)] [(.int p1)])) _
    refine XS.iloadN X0.here hx rfl (hb hby d1_1) rfl ?_
    show Steps p.tables e below (s₁.setTop (mkF m 2 #[.val (.int p1), .val (.int p2)] [(.int p2), (.int p1)])) _
    refine XS.iushr X0.here hx rfl (hb hby d1_2) rfl ?_
    show Steps p.tables e below (s₁.setTop (mkF m 3 #[.val (.int p1), .val (.int p2)] [(.int ((p1.toUInt32 >>> (p2 &&& 31).toUInt32).toInt32))])) _
    refine XS.sipush X0.here hx rfl (hb hby d1_3) ?_
    show Steps p.tables e below (s₁.setTop (mkF m 6 #[.val (.int p1), .val (.int p2)] [(.int (255 : Int32)), (.int ((p1.toUInt32 >>> (p2 &&& 31).toUInt32).toInt32))])) _
    refine XS.iand X0.here hx rfl (hb hby d1_6) rfl ?_
    show Steps p.tables e below (s₁.setTop (mkF m 7 #[.val (.int p1), .val (.int p2)] [(.int (((p1.toUInt32 >>> (p2 &&& 31).toUInt32).toInt32) &&& (255 : Int32)))])) _
    refine XS.i2c X0.here hx rfl (hb hby d1_7) rfl ?_
    show Steps p.tables e below (s₁.setTop (mkF m 8 #[.val (.int p1), .val (.int p2)] [(.int ((((p1.toUInt32 >>> (p2 &&& 31).toUInt32).toInt32) &&& (255 : Int32)).toUInt32.toUInt16.toUInt32.toInt32))])) _
    refine st3 _ ?_
    show Steps p.tables e below (T3.setTop (mkF m 11 #[.val (.int p1), .val (.int p2)] [(.ref b3)])) _
    exact retOut X3 hx Bd.returns rfl (Or.inr (Or.inr (Or.inr (Or.inr ⟨rfl, rfl, rfl⟩)))) (hb hby d1_11) hr
  · show Q1 Z p1 p2 s_COMPACT_STRINGS h0 n0 _ T3.heap _
    exact (by subst g3; exact ⟨rfl, N3, KK3, A3⟩)
def own_f7 (p1 : Int32) (s_INTERNAL : Addr) (s_CLIENT : Addr) (s_SERVER : Addr) (s_PRODUCER : Addr) (s_CONSUMER : Addr) : Addr := (if p1 = (0 : Int32) then s_INTERNAL else (if p1 = (1 : Int32) then s_CLIENT else (if p1 = (2 : Int32) then s_SERVER else (if p1 = (3 : Int32) then s_PRODUCER else s_CONSUMER))))
theorem d7_0 : decode method_3_code 0 = .ok (.iload_n 0, 1) := by decide +kernel
theorem d7_1 : decode method_3_code 1 = .ok (.ifCond .ne 7, 3) := by decide +kernel
theorem d7_4 : decode method_3_code 4 = .ok (.getstatic 13, 3) := by decide +kernel
theorem d7_7 : decode method_3_code 7 = .ok (.areturn, 1) := by decide +kernel
theorem d7_8 : decode method_3_code 8 = .ok (.iload_n 0, 1) := by decide +kernel
theorem d7_9 : decode method_3_code 9 = .ok (.iconst 1, 1) := by decide +kernel
theorem d7_10 : decode method_3_code 10 = .ok (.if_icmp .ne 7, 3) := by decide +kernel
theorem d7_13 : decode method_3_code 13 = .ok (.getstatic 19, 3) := by decide +kernel
theorem d7_16 : decode method_3_code 16 = .ok (.areturn, 1) := by decide +kernel
theorem d7_17 : decode method_3_code 17 = .ok (.iload_n 0, 1) := by decide +kernel
theorem d7_18 : decode method_3_code 18 = .ok (.iconst 2, 1) := by decide +kernel
theorem d7_19 : decode method_3_code 19 = .ok (.if_icmp .ne 7, 3) := by decide +kernel
theorem d7_22 : decode method_3_code 22 = .ok (.getstatic 22, 3) := by decide +kernel
theorem d7_25 : decode method_3_code 25 = .ok (.areturn, 1) := by decide +kernel
theorem d7_26 : decode method_3_code 26 = .ok (.iload_n 0, 1) := by decide +kernel
theorem d7_27 : decode method_3_code 27 = .ok (.iconst 3, 1) := by decide +kernel
theorem d7_28 : decode method_3_code 28 = .ok (.if_icmp .ne 7, 3) := by decide +kernel
theorem d7_31 : decode method_3_code 31 = .ok (.getstatic 25, 3) := by decide +kernel
theorem d7_34 : decode method_3_code 34 = .ok (.areturn, 1) := by decide +kernel
theorem d7_35 : decode method_3_code 35 = .ok (.getstatic 28, 3) := by decide +kernel
theorem d7_38 : decode method_3_code 38 = .ok (.areturn, 1) := by decide +kernel
theorem pn_7 : plainName "com/example/longpole/longpole/SpanWithServicePinLaw" = true := by first | (simp [plainName, overriddenIn]; done) | decide +kernel
theorem ef_7 (m : MethodId) (x0 : Int32) : entryFrame m #[(.int x0)] 1 = mkF m 0 #[.val (.int x0)] [] := by first | (simp [entryFrame, mkF, argsToLocals, Value.category]; done) | rfl
def Q7 (Z : State) (p1 : Int32) (s_INTERNAL : Addr) (s_CLIENT : Addr) (s_SERVER : Addr) (s_PRODUCER : Addr) (s_CONSUMER : Addr) (h0 : Heap) (n0 : Nat) (v : Option Value) (h : Heap) (L : List Loc) : Prop := v = some (.ref (own_f7 p1 s_INTERNAL s_CLIENT s_SERVER s_PRODUCER s_CONSUMER)) ∧ Fr n0 L ∧ h = h0
set_option maxRecDepth 65536 in
set_option maxHeartbeats 40000000 in
theorem rm7 (l : Launch) (Z : State) (a0 : Array Value) (hw : ∀ d ∈ tables_1, d.before a0 Z = true) (ws : List Jvm.Cond) (p1 : Int32) (s_INTERNAL : Addr) (s_CLIENT : Addr) (s_SERVER : Addr) (s_PRODUCER : Addr) (s_CONSUMER : Addr) (h0 : Heap) (n0 : Nat) (Z0 : n0 ≤ h0.size) (S_INTERNAL : Sta Z h0 "com/example/longpole/longpole/Span$Kind" "INTERNAL" "Lcom/example/longpole/longpole/Span$Kind;" (.ref s_INTERNAL)) (S_CLIENT : Sta Z h0 "com/example/longpole/longpole/Span$Kind" "CLIENT" "Lcom/example/longpole/longpole/Span$Kind;" (.ref s_CLIENT)) (S_SERVER : Sta Z h0 "com/example/longpole/longpole/Span$Kind" "SERVER" "Lcom/example/longpole/longpole/Span$Kind;" (.ref s_SERVER)) (S_PRODUCER : Sta Z h0 "com/example/longpole/longpole/Span$Kind" "PRODUCER" "Lcom/example/longpole/longpole/Span$Kind;" (.ref s_PRODUCER)) (S_CONSUMER : Sta Z h0 "com/example/longpole/longpole/Span$Kind" "CONSUMER" "Lcom/example/longpole/longpole/Span$Kind;" (.ref s_CONSUMER)) :
    MetFree l (⟨"com/example/longpole/longpole/SpanWithServicePinLaw", "kind", "(I)Lcom/example/longpole/longpole/Span$Kind;"⟩ : MethodName) (head1 (Jvm.Cond.code (⟨"com/example/longpole/longpole/SpanWithServicePinLaw", "kind", "(I)Lcom/example/longpole/longpole/Span$Kind;"⟩ : MethodName) method_3_code 1 (some (.object "com/example/longpole/longpole/Span$Kind")) :: ws) ({ frames := 0, cells := 0, slots := 0, locals := 0 } : Room)) (fun a U => a = #[(.int p1)] ∧ Z.Warmed39 U.vm ∧ U.heap = h0) (fun _ _ _ _ _ => True) (fun _ U o U' => ∃ v L, o = .returned v ∧ Q7 Z p1 s_INTERNAL s_CLIENT s_SERVER s_PRODUCER s_CONSUMER h0 n0 v U'.heap L ∧ FrameEnd U o U' L ({ frames := 0, cells := 0, slots := 0, locals := 0 } : Room).cells ({ frames := 0, cells := 0, slots := 0, locals := 0 } : Room).slots) := by
  refine MetFree.of_bodySF (plainFor_of_name pn_7) hisR ?_
  intro p e s m args below meth c s₁ Bd hml0 hP hK
  obtain ⟨rfl, hZ, hh⟩ := hP
  have hx := Bd.exec
  have hby := Bd.bytes
  have hml : c.maxLocals = 1 := hml0
  have hown : s.vm.findClass "com/example/longpole/longpole/SpanWithServicePinLaw" = some m.cls := findClass_of_methodNamed Bd.named
  have hnm := (name_of_methodNamed Bd.named Bd.method).1
  have X0 : Stand p l e ({ frames := 0, cells := 0, slots := 0, locals := 0 } : Room) s m #[(.int p1)] below meth c s₁ [] 0 0 := Stand.of_body Bd
  have e0 : s₁.heap = h0 := by rw [← hh, Bd.state]; rfl
  have N0 := Fr.nil n0
  have pre0 : ∀ t, Steps p.tables e below (s₁.setTop (mkF m 0 #[.val (.int p1)] [])) t → Steps p.tables e below (s₁.setTop (entryFrame m #[(.int p1)] 1)) t := fun t k => castTop (ef_7 m p1) k
  have pr3 : ∀ t, Steps p.tables e below (s₁.setTop (mkF m 1 #[.val (.int p1)] [(.int p1)])) t → Steps p.tables e below (s₁.setTop (entryFrame m #[(.int p1)] 1)) t := by
    intro t k
    refine pre0 t ?_
    show Steps p.tables e below (s₁.setTop (mkF m 0 #[.val (.int p1)] [])) _
    refine XS.iloadN X0.here hx rfl (hb hby d7_0) rfl ?_
    show Steps p.tables e below (s₁.setTop (mkF m 1 #[.val (.int p1)] [(.int p1)])) _
    exact k
  by_cases hc2 : p1 = (0 : Int32)
  · obtain ⟨T4, X4, e4, st4⟩ := getS2 X0 hx hZ hown (host := "") (Or.inl (hw _ (List.mem_of_getElem? (i := 33) rfl))) Via.refl e0 S_INTERNAL (g := (mkF m 4 #[.val (.int p1)] [])) rfl (hb hby d7_4)
    obtain ⟨fs, hr, hrun, hended, hW, hsame⟩ := X4.leave (v := some (.ref s_INTERNAL)) (fun h => by rw [Bd.returns] at h; cases h)
    refine ⟨_, _, pr3 _ ?_, hrun, hended, _, _, rfl, ?_, ⟨_, rfl⟩, hW, hsame.mono (by decide) (by decide)⟩
    · show Steps p.tables e below (s₁.setTop (mkF m 1 #[.val (.int p1)] [(.int p1)])) _
      refine XS.ifNo X0.here hx rfl (hb hby d7_1) rfl ((if0 _ _).trans (teq hc2).2) ?_
      show Steps p.tables e below (s₁.setTop (mkF m 4 #[.val (.int p1)] [])) _
      refine st4 _ ?_
      show Steps p.tables e below (T4.setTop (mkF m 7 #[.val (.int p1)] [(.ref s_INTERNAL)])) _
      exact retOut X4 hx Bd.returns rfl (Or.inr (Or.inr (Or.inr (Or.inr ⟨rfl, rfl, rfl⟩)))) (hb hby d7_7) hr
    · show Q7 Z p1 s_INTERNAL s_CLIENT s_SERVER s_PRODUCER s_CONSUMER h0 n0 _ T4.heap _
      rw [e4]
      exact ⟨(by rw [show (own_f7 p1 s_INTERNAL s_CLIENT s_SERVER s_PRODUCER s_CONSUMER) = s_INTERNAL from by unfold own_f7; rw [if_pos hc2]]), N0, rfl⟩
  · have pr6 : ∀ t, Steps p.tables e below (s₁.setTop (mkF m 10 #[.val (.int p1)] [(.int (1 : Int32)), (.int p1)])) t → Steps p.tables e below (s₁.setTop (entryFrame m #[(.int p1)] 1)) t := by
      intro t k
      refine pr3 t ?_
      show Steps p.tables e below (s₁.setTop (mkF m 1 #[.val (.int p1)] [(.int p1)])) _
      refine XS.ifYes X0.here hx rfl (pc0 := 1) (pc' := 8) rfl (hb hby d7_1) rfl ((if0 _ _).trans (feq hc2).2) (by decide) (by decide) ?_
      show Steps p.tables e below (s₁.setTop (mkF m 8 #[.val (.int p1)] [])) _
      refine XS.iloadN X0.here hx rfl (hb hby d7_8) rfl ?_
      show Steps p.tables e below (s₁.setTop (mkF m 9 #[.val (.int p1)] [(.int p1)])) _
      refine XS.iconst X0.here hx rfl (hb hby d7_9) ?_
      show Steps p.tables e below (s₁.setTop (mkF m 10 #[.val (.int p1)] [(.int (1 : Int32)), (.int p1)])) _
      exact k
    by_cases hc5 : p1 = (1 : Int32)
    · obtain ⟨T7, X7, e7, st7⟩ := getS2 X0 hx hZ hown (host := "") (Or.inl (hw _ (List.mem_of_getElem? (i := 139) rfl))) Via.refl e0 S_CLIENT (g := (mkF m 13 #[.val (.int p1)] [])) rfl (hb hby d7_13)
      obtain ⟨fs, hr, hrun, hended, hW, hsame⟩ := X7.leave (v := some (.ref s_CLIENT)) (fun h => by rw [Bd.returns] at h; cases h)
      refine ⟨_, _, pr6 _ ?_, hrun, hended, _, _, rfl, ?_, ⟨_, rfl⟩, hW, hsame.mono (by decide) (by decide)⟩
      · show Steps p.tables e below (s₁.setTop (mkF m 10 #[.val (.int p1)] [(.int (1 : Int32)), (.int p1)])) _
        refine XS.icmpNo X0.here hx rfl (hb hby d7_10) rfl (teq hc5).2 ?_
        show Steps p.tables e below (s₁.setTop (mkF m 13 #[.val (.int p1)] [])) _
        refine st7 _ ?_
        show Steps p.tables e below (T7.setTop (mkF m 16 #[.val (.int p1)] [(.ref s_CLIENT)])) _
        exact retOut X7 hx Bd.returns rfl (Or.inr (Or.inr (Or.inr (Or.inr ⟨rfl, rfl, rfl⟩)))) (hb hby d7_16) hr
      · show Q7 Z p1 s_INTERNAL s_CLIENT s_SERVER s_PRODUCER s_CONSUMER h0 n0 _ T7.heap _
        rw [e7]
        exact ⟨(by rw [show (own_f7 p1 s_INTERNAL s_CLIENT s_SERVER s_PRODUCER s_CONSUMER) = s_CLIENT from by unfold own_f7; rw [if_neg hc2, if_pos hc5]]), N0, rfl⟩
    · have pr9 : ∀ t, Steps p.tables e below (s₁.setTop (mkF m 19 #[.val (.int p1)] [(.int (2 : Int32)), (.int p1)])) t → Steps p.tables e below (s₁.setTop (entryFrame m #[(.int p1)] 1)) t := by
        intro t k
        refine pr6 t ?_
        show Steps p.tables e below (s₁.setTop (mkF m 10 #[.val (.int p1)] [(.int (1 : Int32)), (.int p1)])) _
        refine XS.icmpYes X0.here hx rfl (pc0 := 10) (pc' := 17) rfl (hb hby d7_10) rfl (feq hc5).2 (by decide) (by decide) ?_
        show Steps p.tables e below (s₁.setTop (mkF m 17 #[.val (.int p1)] [])) _
        refine XS.iloadN X0.here hx rfl (hb hby d7_17) rfl ?_
        show Steps p.tables e below (s₁.setTop (mkF m 18 #[.val (.int p1)] [(.int p1)])) _
        refine XS.iconst X0.here hx rfl (hb hby d7_18) ?_
        show Steps p.tables e below (s₁.setTop (mkF m 19 #[.val (.int p1)] [(.int (2 : Int32)), (.int p1)])) _
        exact k
      by_cases hc8 : p1 = (2 : Int32)
      · obtain ⟨T10, X10, e10, st10⟩ := getS2 X0 hx hZ hown (host := "") (Or.inl (hw _ (List.mem_of_getElem? (i := 145) rfl))) Via.refl e0 S_SERVER (g := (mkF m 22 #[.val (.int p1)] [])) rfl (hb hby d7_22)
        obtain ⟨fs, hr, hrun, hended, hW, hsame⟩ := X10.leave (v := some (.ref s_SERVER)) (fun h => by rw [Bd.returns] at h; cases h)
        refine ⟨_, _, pr9 _ ?_, hrun, hended, _, _, rfl, ?_, ⟨_, rfl⟩, hW, hsame.mono (by decide) (by decide)⟩
        · show Steps p.tables e below (s₁.setTop (mkF m 19 #[.val (.int p1)] [(.int (2 : Int32)), (.int p1)])) _
          refine XS.icmpNo X0.here hx rfl (hb hby d7_19) rfl (teq hc8).2 ?_
          show Steps p.tables e below (s₁.setTop (mkF m 22 #[.val (.int p1)] [])) _
          refine st10 _ ?_
          show Steps p.tables e below (T10.setTop (mkF m 25 #[.val (.int p1)] [(.ref s_SERVER)])) _
          exact retOut X10 hx Bd.returns rfl (Or.inr (Or.inr (Or.inr (Or.inr ⟨rfl, rfl, rfl⟩)))) (hb hby d7_25) hr
        · show Q7 Z p1 s_INTERNAL s_CLIENT s_SERVER s_PRODUCER s_CONSUMER h0 n0 _ T10.heap _
          rw [e10]
          exact ⟨(by rw [show (own_f7 p1 s_INTERNAL s_CLIENT s_SERVER s_PRODUCER s_CONSUMER) = s_SERVER from by unfold own_f7; rw [if_neg hc2, if_neg hc5, if_pos hc8]]), N0, rfl⟩
      · have pr12 : ∀ t, Steps p.tables e below (s₁.setTop (mkF m 28 #[.val (.int p1)] [(.int (3 : Int32)), (.int p1)])) t → Steps p.tables e below (s₁.setTop (entryFrame m #[(.int p1)] 1)) t := by
          intro t k
          refine pr9 t ?_
          show Steps p.tables e below (s₁.setTop (mkF m 19 #[.val (.int p1)] [(.int (2 : Int32)), (.int p1)])) _
          refine XS.icmpYes X0.here hx rfl (pc0 := 19) (pc' := 26) rfl (hb hby d7_19) rfl (feq hc8).2 (by decide) (by decide) ?_
          show Steps p.tables e below (s₁.setTop (mkF m 26 #[.val (.int p1)] [])) _
          refine XS.iloadN X0.here hx rfl (hb hby d7_26) rfl ?_
          show Steps p.tables e below (s₁.setTop (mkF m 27 #[.val (.int p1)] [(.int p1)])) _
          refine XS.iconst X0.here hx rfl (hb hby d7_27) ?_
          show Steps p.tables e below (s₁.setTop (mkF m 28 #[.val (.int p1)] [(.int (3 : Int32)), (.int p1)])) _
          exact k
        by_cases hc11 : p1 = (3 : Int32)
        · obtain ⟨T13, X13, e13, st13⟩ := getS2 X0 hx hZ hown (host := "") (Or.inl (hw _ (List.mem_of_getElem? (i := 141) rfl))) Via.refl e0 S_PRODUCER (g := (mkF m 31 #[.val (.int p1)] [])) rfl (hb hby d7_31)
          obtain ⟨fs, hr, hrun, hended, hW, hsame⟩ := X13.leave (v := some (.ref s_PRODUCER)) (fun h => by rw [Bd.returns] at h; cases h)
          refine ⟨_, _, pr12 _ ?_, hrun, hended, _, _, rfl, ?_, ⟨_, rfl⟩, hW, hsame.mono (by decide) (by decide)⟩
          · show Steps p.tables e below (s₁.setTop (mkF m 28 #[.val (.int p1)] [(.int (3 : Int32)), (.int p1)])) _
            refine XS.icmpNo X0.here hx rfl (hb hby d7_28) rfl (teq hc11).2 ?_
            show Steps p.tables e below (s₁.setTop (mkF m 31 #[.val (.int p1)] [])) _
            refine st13 _ ?_
            show Steps p.tables e below (T13.setTop (mkF m 34 #[.val (.int p1)] [(.ref s_PRODUCER)])) _
            exact retOut X13 hx Bd.returns rfl (Or.inr (Or.inr (Or.inr (Or.inr ⟨rfl, rfl, rfl⟩)))) (hb hby d7_34) hr
          · show Q7 Z p1 s_INTERNAL s_CLIENT s_SERVER s_PRODUCER s_CONSUMER h0 n0 _ T13.heap _
            rw [e13]
            exact ⟨(by rw [show (own_f7 p1 s_INTERNAL s_CLIENT s_SERVER s_PRODUCER s_CONSUMER) = s_PRODUCER from by unfold own_f7; rw [if_neg hc2, if_neg hc5, if_neg hc8, if_pos hc11]]), N0, rfl⟩
        · obtain ⟨T14, X14, e14, st14⟩ := getS2 X0 hx hZ hown (host := "") (Or.inl (hw _ (List.mem_of_getElem? (i := 143) rfl))) Via.refl e0 S_CONSUMER (g := (mkF m 35 #[.val (.int p1)] [])) rfl (hb hby d7_35)
          obtain ⟨fs, hr, hrun, hended, hW, hsame⟩ := X14.leave (v := some (.ref s_CONSUMER)) (fun h => by rw [Bd.returns] at h; cases h)
          refine ⟨_, _, pr12 _ ?_, hrun, hended, _, _, rfl, ?_, ⟨_, rfl⟩, hW, hsame.mono (by decide) (by decide)⟩
          · show Steps p.tables e below (s₁.setTop (mkF m 28 #[.val (.int p1)] [(.int (3 : Int32)), (.int p1)])) _
            refine XS.icmpYes X0.here hx rfl (pc0 := 28) (pc' := 35) rfl (hb hby d7_28) rfl (feq hc11).2 (by decide) (by decide) ?_
            show Steps p.tables e below (s₁.setTop (mkF m 35 #[.val (.int p1)] [])) _
            refine st14 _ ?_
            show Steps p.tables e below (T14.setTop (mkF m 38 #[.val (.int p1)] [(.ref s_CONSUMER)])) _
            exact retOut X14 hx Bd.returns rfl (Or.inr (Or.inr (Or.inr (Or.inr ⟨rfl, rfl, rfl⟩)))) (hb hby d7_38) hr
          · show Q7 Z p1 s_INTERNAL s_CLIENT s_SERVER s_PRODUCER s_CONSUMER h0 n0 _ T14.heap _
            rw [e14]
            exact ⟨(by rw [show (own_f7 p1 s_INTERNAL s_CLIENT s_SERVER s_PRODUCER s_CONSUMER) = s_CONSUMER from by unfold own_f7; rw [if_neg hc2, if_neg hc5, if_neg hc8, if_neg hc11]]), N0, rfl⟩
theorem d9_0 : decode jdk_30_method_1_code 0 = .ok (.aload_n 0, 1) := by decide +kernel
theorem d9_1 : decode jdk_30_method_1_code 1 = .ok (.invokespecial 1, 3) := by decide +kernel
theorem d9_4 : decode jdk_30_method_1_code 4 = .ok (.return_, 1) := by decide +kernel
theorem pn_9 : plainName "java/lang/Record" = true := by first | (simp [plainName, overriddenIn]; done) | decide +kernel
theorem ef_9 (m : MethodId) (x0 : Addr) : entryFrame m #[(.ref x0)] 1 = mkF m 0 #[.val (.ref x0)] [] := by first | (simp [entryFrame, mkF, argsToLocals, Value.category]; done) | rfl
def Q9 (Z : State) (a1 : Addr) (h0 : Heap) (n0 : Nat) (v : Option Value) (h : Heap) (L : List Loc) : Prop := v = none ∧ Fr n0 L ∧ h = h0
set_option maxRecDepth 65536 in
set_option maxHeartbeats 40000000 in
theorem rm9 (l : Launch) (Z : State) (a0 : Array Value) (hw : ∀ d ∈ tables_1, d.before a0 Z = true) (ws : List Jvm.Cond) (a1 : Addr) (h0 : Heap) (n0 : Nat) (Z0 : n0 ≤ h0.size) :
    MetFree l (⟨"java/lang/Record", "<init>", "()V"⟩ : MethodName) (head1 (Jvm.Cond.code (⟨"java/lang/Record", "<init>", "()V"⟩ : MethodName) jdk_30_method_1_code 1 none :: ws) ({ frames := 1, cells := 0, slots := 0, locals := 12 } : Room)) (fun a U => a = #[(.ref a1)] ∧ Z.Warmed39 U.vm ∧ U.heap = h0) (fun _ _ _ _ _ => True) (fun _ U o U' => ∃ v L, o = .returned v ∧ Q9 Z a1 h0 n0 v U'.heap L ∧ FrameEnd U o U' L ({ frames := 1, cells := 0, slots := 0, locals := 12 } : Room).cells ({ frames := 1, cells := 0, slots := 0, locals := 12 } : Room).slots) := by
  refine MetFree.of_bodySF (plainFor_of_name pn_9) hisR ?_
  intro p e s m args below meth c s₁ Bd hml0 hP hK
  obtain ⟨rfl, hZ, hh⟩ := hP
  have hx := Bd.exec
  have hby := Bd.bytes
  have hml : c.maxLocals = 1 := hml0
  have hown : s.vm.findClass "java/lang/Record" = some m.cls := findClass_of_methodNamed Bd.named
  have hnm := (name_of_methodNamed Bd.named Bd.method).1
  have X0 : Stand p l e ({ frames := 1, cells := 0, slots := 0, locals := 12 } : Room) s m #[(.ref a1)] below meth c s₁ [] 0 0 := Stand.of_body Bd
  have e0 : s₁.heap = h0 := by rw [← hh, Bd.state]; rfl
  have N0 := Fr.nil n0
  have pre0 : ∀ t, Steps p.tables e below (s₁.setTop (mkF m 0 #[.val (.ref a1)] [])) t → Steps p.tables e below (s₁.setTop (entryFrame m #[(.ref a1)] 1)) t := fun t k => castTop (ef_9 m a1) k
  obtain ⟨T2, X2, e2, st2⟩ := initO X0 hx hZ hown (hw _ (List.mem_of_getElem? (i := 47) rfl)) (hw _ (List.mem_of_getElem? (i := 24) rfl)) (hw _ (List.mem_of_getElem? (i := 25) rfl)) e0 (g := (mkF m 1 #[.val (.ref a1)] [(.ref a1)])) rfl (by rw [hml]; rfl) rfl (hb hby d9_1) (by decide) (W := 0) (by show 2 * 0 + _ ≤ _; exact Nat.le_of_eq rfl) (by decide)
  obtain ⟨fs, hr, hrun, hended, hW, hsame⟩ := X2.leave (v := none) (fun _ => rfl)
  refine ⟨_, _, pre0 _ ?_, hrun, hended, _, _, rfl, ?_, ⟨_, rfl⟩, hW, hsame.mono (by decide) (by decide)⟩
  · show Steps p.tables e below (s₁.setTop (mkF m 0 #[.val (.ref a1)] [])) _
    refine XS.aloadN X0.here hx rfl (hb hby d9_0) rfl rfl ?_
    show Steps p.tables e below (s₁.setTop (mkF m 1 #[.val (.ref a1)] [(.ref a1)])) _
    refine st2 _ ?_
    show Steps p.tables e below (T2.setTop (mkF m 4 #[.val (.ref a1)] [])) _
    exact X2.returnOut hx Bd.returns (hb hby d9_4) hr
  · show Q9 Z a1 h0 n0 _ T2.heap _
    rw [e2]
    exact ⟨rfl, N0, rfl⟩
theorem d8_0 : decode prog_33_method_2_code 0 = .ok (.aload_n 0, 1) := by decide +kernel
theorem d8_1 : decode prog_33_method_2_code 1 = .ok (.invokespecial 1, 3) := by decide +kernel
theorem d8_4 : decode prog_33_method_2_code 4 = .ok (.aload_n 0, 1) := by decide +kernel
theorem d8_5 : decode prog_33_method_2_code 5 = .ok (.aload_n 1, 1) := by decide +kernel
theorem d8_6 : decode prog_33_method_2_code 6 = .ok (.putfield 7, 3) := by decide +kernel
theorem d8_9 : decode prog_33_method_2_code 9 = .ok (.aload_n 0, 1) := by decide +kernel
theorem d8_10 : decode prog_33_method_2_code 10 = .ok (.aload_n 2, 1) := by decide +kernel
theorem d8_11 : decode prog_33_method_2_code 11 = .ok (.putfield 13, 3) := by decide +kernel
theorem d8_14 : decode prog_33_method_2_code 14 = .ok (.aload_n 0, 1) := by decide +kernel
theorem d8_15 : decode prog_33_method_2_code 15 = .ok (.aload_n 3, 1) := by decide +kernel
theorem d8_16 : decode prog_33_method_2_code 16 = .ok (.putfield 16, 3) := by decide +kernel
theorem d8_19 : decode prog_33_method_2_code 19 = .ok (.aload_n 0, 1) := by decide +kernel
theorem d8_20 : decode prog_33_method_2_code 20 = .ok (.iload 4, 2) := by decide +kernel
theorem d8_22 : decode prog_33_method_2_code 22 = .ok (.putfield 19, 3) := by decide +kernel
theorem d8_25 : decode prog_33_method_2_code 25 = .ok (.aload_n 0, 1) := by decide +kernel
theorem d8_26 : decode prog_33_method_2_code 26 = .ok (.aload 5, 2) := by decide +kernel
theorem d8_28 : decode prog_33_method_2_code 28 = .ok (.putfield 23, 3) := by decide +kernel
theorem d8_31 : decode prog_33_method_2_code 31 = .ok (.aload_n 0, 1) := by decide +kernel
theorem d8_32 : decode prog_33_method_2_code 32 = .ok (.iload 6, 2) := by decide +kernel
theorem d8_34 : decode prog_33_method_2_code 34 = .ok (.putfield 27, 3) := by decide +kernel
theorem d8_37 : decode prog_33_method_2_code 37 = .ok (.aload_n 0, 1) := by decide +kernel
theorem d8_38 : decode prog_33_method_2_code 38 = .ok (.aload 7, 2) := by decide +kernel
theorem d8_40 : decode prog_33_method_2_code 40 = .ok (.putfield 30, 3) := by decide +kernel
theorem d8_43 : decode prog_33_method_2_code 43 = .ok (.aload_n 0, 1) := by decide +kernel
theorem d8_44 : decode prog_33_method_2_code 44 = .ok (.aload 8, 2) := by decide +kernel
theorem d8_46 : decode prog_33_method_2_code 46 = .ok (.putfield 33, 3) := by decide +kernel
theorem d8_49 : decode prog_33_method_2_code 49 = .ok (.aload_n 0, 1) := by decide +kernel
theorem d8_50 : decode prog_33_method_2_code 50 = .ok (.aload 9, 2) := by decide +kernel
theorem d8_52 : decode prog_33_method_2_code 52 = .ok (.putfield 36, 3) := by decide +kernel
theorem d8_55 : decode prog_33_method_2_code 55 = .ok (.aload_n 0, 1) := by decide +kernel
theorem d8_56 : decode prog_33_method_2_code 56 = .ok (.iload 10, 2) := by decide +kernel
theorem d8_58 : decode prog_33_method_2_code 58 = .ok (.putfield 39, 3) := by decide +kernel
theorem d8_61 : decode prog_33_method_2_code 61 = .ok (.aload_n 0, 1) := by decide +kernel
theorem d8_62 : decode prog_33_method_2_code 62 = .ok (.lload 11, 2) := by decide +kernel
theorem d8_64 : decode prog_33_method_2_code 64 = .ok (.putfield 42, 3) := by decide +kernel
theorem d8_67 : decode prog_33_method_2_code 67 = .ok (.aload_n 0, 1) := by decide +kernel
theorem d8_68 : decode prog_33_method_2_code 68 = .ok (.lload 13, 2) := by decide +kernel
theorem d8_70 : decode prog_33_method_2_code 70 = .ok (.putfield 46, 3) := by decide +kernel
theorem d8_73 : decode prog_33_method_2_code 73 = .ok (.return_, 1) := by decide +kernel
theorem pn_8 : plainName "com/example/longpole/longpole/Span" = true := by first | (simp [plainName, overriddenIn]; done) | decide +kernel
theorem pd_8_0 : parseMethodDescriptor "()V" = some ⟨[], none⟩ := by decide +kernel
theorem ef_8 (m : MethodId) (x0 : Addr) (x1 : Value) (x2 : Value) (x3 : Value) (x4 : Int32) (x5 : Value) (x6 : Int32) (x7 : Value) (x8 : Value) (x9 : Value) (x10 : Int32) (x11 : Int64) (x12 : Int64) (r1 : x1.isRef = true) (r2 : x2.isRef = true) (r3 : x3.isRef = true) (r5 : x5.isRef = true) (r7 : x7.isRef = true) (r8 : x8.isRef = true) (r9 : x9.isRef = true) : entryFrame m #[(.ref x0), x1, x2, x3, (.int x4), x5, (.int x6), x7, x8, x9, (.int x10), (.long x11), (.long x12)] 15 = mkF m 0 #[.val (.ref x0), .val x1, .val x2, .val x3, .val (.int x4), .val x5, .val (.int x6), .val x7, .val x8, .val x9, .val (.int x10), .val (.long x11), .second, .val (.long x12), .second] [] := by 
  have k1 := own_catR r1
  have k2 := own_catR r2
  have k3 := own_catR r3
  have k5 := own_catR r5
  have k7 := own_catR r7
  have k8 := own_catR r8
  have k9 := own_catR r9
  simp [entryFrame, mkF, argsToLocals, own_cRef, own_cInt, own_cLong, k1, k2, k3, k5, k7, k8, k9]
def Q8 (Z : State) (a1 : Addr) (v2 : Value) (v3 : Value) (v4 : Value) (p5 : Int32) (v6 : Value) (p7 : Int32) (v8 : Value) (v9 : Value) (v10 : Value) (p11 : Int32) (q12 : Int64) (q13 : Int64) (u_traceId : Value) (u_id : Value) (u_parentId : Value) (u_awaited : Value) (u_kind : Value) (u_shared : Value) (u_service : Value) (u_name : Value) (u_remoteService : Value) (u_hasTimestamp : Value) (u_startMicros : Value) (u_durationMicros : Value) (h0 : Heap) (n0 : Nat) (v : Option Value) (h : Heap) (L : List Loc) : Prop := v = none ∧ Fr n0 L ∧ Keep h0 h [a1] ∧ Exa Z h a1 "com/example/longpole/longpole/Span" ∧ Fld Z h a1 "com/example/longpole/longpole/Span" "traceId" "Ljava/lang/String;" v2 ∧ Fld Z h a1 "com/example/longpole/longpole/Span" "id" "Ljava/lang/String;" v3 ∧ Fld Z h a1 "com/example/longpole/longpole/Span" "parentId" "Ljava/lang/String;" v4 ∧ Fld Z h a1 "com/example/longpole/longpole/Span" "awaited" "Z" (.int (nar .boolean p5)) ∧ Fld Z h a1 "com/example/longpole/longpole/Span" "kind" "Lcom/example/longpole/longpole/Span$Kind;" v6 ∧ Fld Z h a1 "com/example/longpole/longpole/Span" "shared" "Z" (.int (nar .boolean p7)) ∧ Fld Z h a1 "com/example/longpole/longpole/Span" "service" "Ljava/lang/String;" v8 ∧ Fld Z h a1 "com/example/longpole/longpole/Span" "name" "Ljava/lang/String;" v9 ∧ Fld Z h a1 "com/example/longpole/longpole/Span" "remoteService" "Ljava/lang/String;" v10 ∧ Fld Z h a1 "com/example/longpole/longpole/Span" "hasTimestamp" "Z" (.int (nar .boolean p11)) ∧ Fld Z h a1 "com/example/longpole/longpole/Span" "startMicros" "J" (.long q12) ∧ Fld Z h a1 "com/example/longpole/longpole/Span" "durationMicros" "J" (.long q13)
set_option maxRecDepth 65536 in
set_option maxHeartbeats 40000000 in
theorem rm8 (l : Launch) (Z : State) (a0 : Array Value) (hw : ∀ d ∈ tables_1, d.before a0 Z = true) (ws : List Jvm.Cond) (a1 : Addr) (v2 : Value) (v3 : Value) (v4 : Value) (p5 : Int32) (v6 : Value) (p7 : Int32) (v8 : Value) (v9 : Value) (v10 : Value) (p11 : Int32) (q12 : Int64) (q13 : Int64) (u_traceId : Value) (u_id : Value) (u_parentId : Value) (u_awaited : Value) (u_kind : Value) (u_shared : Value) (u_service : Value) (u_name : Value) (u_remoteService : Value) (u_hasTimestamp : Value) (u_startMicros : Value) (u_durationMicros : Value) (h0 : Heap) (n0 : Nat) (Z0 : n0 ≤ h0.size) (hr_v2 : v2.isRef = true) (hr_v3 : v3.isRef = true) (hr_v4 : v4.isRef = true) (hr_v6 : v6.isRef = true) (hr_v8 : v8.isRef = true) (hr_v9 : v9.isRef = true) (hr_v10 : v10.isRef = true) (g_a1 : n0 ≤ a1) (E_a1 : Exa Z h0 a1 "com/example/longpole/longpole/Span") (F_traceId_a1 : Fld Z h0 a1 "com/example/longpole/longpole/Span" "traceId" "Ljava/lang/String;" u_traceId) (F_id_a1 : Fld Z h0 a1 "com/example/longpole/longpole/Span" "id" "Ljava/lang/String;" u_id) (F_parentId_a1 : Fld Z h0 a1 "com/example/longpole/longpole/Span" "parentId" "Ljava/lang/String;" u_parentId) (F_awaited_a1 : Fld Z h0 a1 "com/example/longpole/longpole/Span" "awaited" "Z" u_awaited) (F_kind_a1 : Fld Z h0 a1 "com/example/longpole/longpole/Span" "kind" "Lcom/example/longpole/longpole/Span$Kind;" u_kind) (F_shared_a1 : Fld Z h0 a1 "com/example/longpole/longpole/Span" "shared" "Z" u_shared) (F_service_a1 : Fld Z h0 a1 "com/example/longpole/longpole/Span" "service" "Ljava/lang/String;" u_service) (F_name_a1 : Fld Z h0 a1 "com/example/longpole/longpole/Span" "name" "Ljava/lang/String;" u_name) (F_remoteService_a1 : Fld Z h0 a1 "com/example/longpole/longpole/Span" "remoteService" "Ljava/lang/String;" u_remoteService) (F_hasTimestamp_a1 : Fld Z h0 a1 "com/example/longpole/longpole/Span" "hasTimestamp" "Z" u_hasTimestamp) (F_startMicros_a1 : Fld Z h0 a1 "com/example/longpole/longpole/Span" "startMicros" "J" u_startMicros) (F_durationMicros_a1 : Fld Z h0 a1 "com/example/longpole/longpole/Span" "durationMicros" "J" u_durationMicros) :
    MetFree l (⟨"com/example/longpole/longpole/Span", "<init>", "(Ljava/lang/String;Ljava/lang/String;Ljava/lang/String;ZLcom/example/longpole/longpole/Span$Kind;ZLjava/lang/String;Ljava/lang/String;Ljava/lang/String;ZJJ)V"⟩ : MethodName) (head1 (Jvm.Cond.code (⟨"com/example/longpole/longpole/Span", "<init>", "(Ljava/lang/String;Ljava/lang/String;Ljava/lang/String;ZLcom/example/longpole/longpole/Span$Kind;ZLjava/lang/String;Ljava/lang/String;Ljava/lang/String;ZJJ)V"⟩ : MethodName) prog_33_method_2_code 15 none :: ws) ({ frames := 2, cells := 0, slots := 0, locals := 24 } : Room)) (fun a U => a = #[(.ref a1), v2, v3, v4, (.int p5), v6, (.int p7), v8, v9, v10, (.int p11), (.long q12), (.long q13)] ∧ Z.Warmed39 U.vm ∧ U.heap = h0) (fun _ _ _ _ _ => True) (fun _ U o U' => ∃ v L, o = .returned v ∧ Q8 Z a1 v2 v3 v4 p5 v6 p7 v8 v9 v10 p11 q12 q13 u_traceId u_id u_parentId u_awaited u_kind u_shared u_service u_name u_remoteService u_hasTimestamp u_startMicros u_durationMicros h0 n0 v U'.heap L ∧ FrameEnd U o U' L ({ frames := 2, cells := 0, slots := 0, locals := 24 } : Room).cells ({ frames := 2, cells := 0, slots := 0, locals := 24 } : Room).slots) := by
  refine MetFree.of_bodySF (plainFor_of_name pn_8) hisR ?_
  intro p e s m args below meth c s₁ Bd hml0 hP hK
  obtain ⟨rfl, hZ, hh⟩ := hP
  have hx := Bd.exec
  have hby := Bd.bytes
  have hml : c.maxLocals = 15 := hml0
  have hown : s.vm.findClass "com/example/longpole/longpole/Span" = some m.cls := findClass_of_methodNamed Bd.named
  have hnm := (name_of_methodNamed Bd.named Bd.method).1
  have X0 : Stand p l e ({ frames := 2, cells := 0, slots := 0, locals := 24 } : Room) s m #[(.ref a1), v2, v3, v4, (.int p5), v6, (.int p7), v8, v9, v10, (.int p11), (.long q12), (.long q13)] below meth c s₁ [] 0 0 := Stand.of_body Bd
  have e0 : s₁.heap = h0 := by rw [← hh, Bd.state]; rfl
  have N0 := Fr.nil n0
  have pre0 : ∀ t, Steps p.tables e below (s₁.setTop (mkF m 0 #[.val (.ref a1), .val v2, .val v3, .val v4, .val (.int p5), .val v6, .val (.int p7), .val v8, .val v9, .val v10, .val (.int p11), .val (.long q12), .second, .val (.long q13), .second] [])) t → Steps p.tables e below (s₁.setTop (entryFrame m #[(.ref a1), v2, v3, v4, (.int p5), v6, (.int p7), v8, v9, v10, (.int p11), (.long q12), (.long q13)] 15)) t := fun t k => castTop (ef_8 m a1 v2 v3 v4 p5 v6 p7 v8 v9 v10 p11 q12 q13 hr_v2 hr_v3 hr_v4 hr_v6 hr_v8 hr_v9 hr_v10) k
  obtain ⟨_, _, ⟨T14, L14, k14, n14⟩, -, X14, ⟨Lc14, hQ14, l14, y14, z14⟩, st14⟩ := X0.specialBack hx (y := (⟨"java/lang/Record", "<init>", "()V"⟩ : MethodName)) rfl hown (mvT hZ (hw _ (List.mem_of_getElem? (i := 42) rfl))) (mvT hZ (hw _ (List.mem_of_getElem? (i := 43) rfl))) (mvT hZ (hw _ (List.mem_of_getElem? (i := 46) rfl))) (by decide) (backOf (W := 0) (rm9 l Z a0 hw [] a1 h0 n0 Z0) hZ (hw _ (List.mem_of_getElem? (i := 46) rfl)) (hw _ (List.mem_of_getElem? (i := 45) rfl)) (by decide) (by decide)) (g := (mkF m 1 #[.val (.ref a1), .val v2, .val v3, .val v4, .val (.int p5), .val v6, .val (.int p7), .val v8, .val v9, .val v10, .val (.int p11), .val (.long q12), .second, .val (.long q13), .second] [(.ref a1)])) rfl (by rw [hml]; rfl) (Steps.refl _) (a := a1) (argsL := []) (rest := []) (lenOf pd_8_0 rfl) rfl (by show 2 * 0 + _ ≤ _; exact Nat.le_of_eq rfl) (hb hby d8_1) (fun _ _ => ⟨rfl, e0, (by decide : 0 + 0 ≤ _), (by decide : 0 + 0 ≤ _)⟩)
  dsimp only [Pt.U, Pt.locs, Pt.cells, Pt.slots] at X14 l14 y14 z14 st14 hQ14
  subst l14 y14 z14
  obtain ⟨rfl, N14q, e14⟩ := hQ14
  have N14 := Fr.app N0 N14q
  obtain ⟨T15, h15, X15, e15, W15, st15⟩ := putF X14 hx hZ hown (host := "") (Or.inl (hw _ (List.mem_of_getElem? (i := 48) rfl))) Via.refl e14 F_traceId_a1 E_a1 (Or.inr ⟨(hw _ (List.mem_of_getElem? (i := 49) rfl)), rfl, hnm⟩) (hw _ (List.mem_of_getElem? (i := 37) rfl)) (ty := (.object "java/lang/String")) (by decide) (own_narR _ _) (own_fitsR _ hr_v2) (g := (mkF m 6 #[.val (.ref a1), .val v2, .val v3, .val v4, .val (.int p5), .val v6, .val (.int p7), .val v8, .val v9, .val v10, .val (.int p11), .val (.long q12), .second, .val (.long q13), .second] [v2, (.ref a1)])) rfl rfl (hb hby d8_6)
  have Z15 : n0 ≤ h15.size := Nat.le_trans Z0 (Keep.of_wr W15).1
  have KK15 := Keep.wr (Keep.refl h0 [a1]) W15 (Or.inl (List.mem_of_getElem? (i := 0) rfl))
  have N15 := Fr.snoc X15 N14 g_a1
  have Fw15 := Fld.same W15 F_traceId_a1
  have f17 := (Exa.wr W15 E_a1)
  have f18 := (Fld.other W15 F_id_a1 (Or.inr (slot_ne (Or.inr (hw _ (List.mem_of_getElem? (i := 51) rfl))) (Or.inr (hw _ (List.mem_of_getElem? (i := 49) rfl))) (by decide) (t := (.object "java/lang/String")) (t' := (.object "java/lang/String")) (by decide) (by decide))))
  obtain ⟨T16, h16, X16, e16, W16, st16⟩ := putF X15 hx hZ hown (host := "") (Or.inl (hw _ (List.mem_of_getElem? (i := 50) rfl))) Via.refl e15 f18 f17 (Or.inr ⟨(hw _ (List.mem_of_getElem? (i := 51) rfl)), rfl, hnm⟩) (hw _ (List.mem_of_getElem? (i := 37) rfl)) (ty := (.object "java/lang/String")) (by decide) (own_narR _ _) (own_fitsR _ hr_v3) (g := (mkF m 11 #[.val (.ref a1), .val v2, .val v3, .val v4, .val (.int p5), .val v6, .val (.int p7), .val v8, .val v9, .val v10, .val (.int p11), .val (.long q12), .second, .val (.long q13), .second] [v3, (.ref a1)])) rfl rfl (hb hby d8_11)
  have Z16 : n0 ≤ h16.size := Nat.le_trans Z15 (Keep.of_wr W16).1
  have KK16 := Keep.wr KK15 W16 (Or.inl (List.mem_of_getElem? (i := 0) rfl))
  have N16 := Fr.snoc X16 N15 g_a1
  have Fw16 := Fld.same W16 f18
  have f20 := (Exa.wr W16 f17)
  have f21 := (Fld.other W16 (Fld.other W15 F_parentId_a1 (Or.inr (slot_ne (Or.inr (hw _ (List.mem_of_getElem? (i := 53) rfl))) (Or.inr (hw _ (List.mem_of_getElem? (i := 49) rfl))) (by decide) (t := (.object "java/lang/String")) (t' := (.object "java/lang/String")) (by decide) (by decide)))) (Or.inr (slot_ne (Or.inr (hw _ (List.mem_of_getElem? (i := 53) rfl))) (Or.inr (hw _ (List.mem_of_getElem? (i := 51) rfl))) (by decide) (t := (.object "java/lang/String")) (t' := (.object "java/lang/String")) (by decide) (by decide))))
  obtain ⟨T19, h19, X19, e19, W19, st19⟩ := putF X16 hx hZ hown (host := "") (Or.inl (hw _ (List.mem_of_getElem? (i := 52) rfl))) Via.refl e16 f21 f20 (Or.inr ⟨(hw _ (List.mem_of_getElem? (i := 53) rfl)), rfl, hnm⟩) (hw _ (List.mem_of_getElem? (i := 37) rfl)) (ty := (.object "java/lang/String")) (by decide) (own_narR _ _) (own_fitsR _ hr_v4) (g := (mkF m 16 #[.val (.ref a1), .val v2, .val v3, .val v4, .val (.int p5), .val v6, .val (.int p7), .val v8, .val v9, .val v10, .val (.int p11), .val (.long q12), .second, .val (.long q13), .second] [v4, (.ref a1)])) rfl rfl (hb hby d8_16)
  have Z19 : n0 ≤ h19.size := Nat.le_trans Z16 (Keep.of_wr W19).1
  have KK19 := Keep.wr KK16 W19 (Or.inl (List.mem_of_getElem? (i := 0) rfl))
  have N19 := Fr.snoc X19 N16 g_a1
  have Fw19 := Fld.same W19 f21
  have f23 := (Exa.wr W19 f20)
  have f24 := (Fld.other W19 (Fld.other W16 (Fld.other W15 F_awaited_a1 (Or.inr (slot_ne (Or.inr (hw _ (List.mem_of_getElem? (i := 55) rfl))) (Or.inr (hw _ (List.mem_of_getElem? (i := 49) rfl))) (by decide) (t := .boolean) (t' := (.object "java/lang/String")) (by decide) (by decide)))) (Or.inr (slot_ne (Or.inr (hw _ (List.mem_of_getElem? (i := 55) rfl))) (Or.inr (hw _ (List.mem_of_getElem? (i := 51) rfl))) (by decide) (t := .boolean) (t' := (.object "java/lang/String")) (by decide) (by decide)))) (Or.inr (slot_ne (Or.inr (hw _ (List.mem_of_getElem? (i := 55) rfl))) (Or.inr (hw _ (List.mem_of_getElem? (i := 53) rfl))) (by decide) (t := .boolean) (t' := (.object "java/lang/String")) (by decide) (by decide))))
  obtain ⟨T22, h22, X22, e22, W22, st22⟩ := putFN X19 hx hZ hown (hw _ (List.mem_of_getElem? (i := 54) rfl)) Via.refl e19 f24 f23 (Or.inr ⟨(hw _ (List.mem_of_getElem? (i := 55) rfl)), rfl, hnm⟩) (hw _ (List.mem_of_getElem? (i := 37) rfl)) (ty := .boolean) (v' := (.int (nar .boolean p5))) (by decide) rfl (fits_nar_bool _) (g := (mkF m 22 #[.val (.ref a1), .val v2, .val v3, .val v4, .val (.int p5), .val v6, .val (.int p7), .val v8, .val v9, .val v10, .val (.int p11), .val (.long q12), .second, .val (.long q13), .second] [(.int p5), (.ref a1)])) rfl rfl (hb hby d8_22)
  have Z22 : n0 ≤ h22.size := Nat.le_trans Z19 (Keep.of_wr W22).1
  have KK22 := Keep.wr KK19 W22 (Or.inl (List.mem_of_getElem? (i := 0) rfl))
  have N22 := Fr.snoc X22 N19 g_a1
  have Fw22 := Fld.same W22 f24
  have f26 := (Exa.wr W22 f23)
  have f27 := (Fld.other W22 (Fld.other W19 (Fld.other W16 (Fld.other W15 F_kind_a1 (Or.inr (slot_ne (Or.inr (hw _ (List.mem_of_getElem? (i := 57) rfl))) (Or.inr (hw _ (List.mem_of_getElem? (i := 49) rfl))) (by decide) (t := (.object "com/example/longpole/longpole/Span$Kind")) (t' := (.object "java/lang/String")) (by decide) (by decide)))) (Or.inr (slot_ne (Or.inr (hw _ (List.mem_of_getElem? (i := 57) rfl))) (Or.inr (hw _ (List.mem_of_getElem? (i := 51) rfl))) (by decide) (t := (.object "com/example/longpole/longpole/Span$Kind")) (t' := (.object "java/lang/String")) (by decide) (by decide)))) (Or.inr (slot_ne (Or.inr (hw _ (List.mem_of_getElem? (i := 57) rfl))) (Or.inr (hw _ (List.mem_of_getElem? (i := 53) rfl))) (by decide) (t := (.object "com/example/longpole/longpole/Span$Kind")) (t' := (.object "java/lang/String")) (by decide) (by decide)))) (Or.inr (slot_ne (Or.inr (hw _ (List.mem_of_getElem? (i := 57) rfl))) (Or.inr (hw _ (List.mem_of_getElem? (i := 55) rfl))) (by decide) (t := (.object "com/example/longpole/longpole/Span$Kind")) (t' := .boolean) (by decide) (by decide))))
  obtain ⟨T25, h25, X25, e25, W25, st25⟩ := putF X22 hx hZ hown (host := "") (Or.inl (hw _ (List.mem_of_getElem? (i := 56) rfl))) Via.refl e22 f27 f26 (Or.inr ⟨(hw _ (List.mem_of_getElem? (i := 57) rfl)), rfl, hnm⟩) (hw _ (List.mem_of_getElem? (i := 37) rfl)) (ty := (.object "com/example/longpole/longpole/Span$Kind")) (by decide) (own_narR _ _) (own_fitsR _ hr_v6) (g := (mkF m 28 #[.val (.ref a1), .val v2, .val v3, .val v4, .val (.int p5), .val v6, .val (.int p7), .val v8, .val v9, .val v10, .val (.int p11), .val (.long q12), .second, .val (.long q13), .second] [v6, (.ref a1)])) rfl rfl (hb hby d8_28)
  have Z25 : n0 ≤ h25.size := Nat.le_trans Z22 (Keep.of_wr W25).1
  have KK25 := Keep.wr KK22 W25 (Or.inl (List.mem_of_getElem? (i := 0) rfl))
  have N25 := Fr.snoc X25 N22 g_a1
  have Fw25 := Fld.same W25 f27
  have f29 := (Exa.wr W25 f26)
  have f30 := (Fld.other W25 (Fld.other W22 (Fld.other W19 (Fld.other W16 (Fld.other W15 F_shared_a1 (Or.inr (slot_ne (Or.inr (hw _ (List.mem_of_getElem? (i := 59) rfl))) (Or.inr (hw _ (List.mem_of_getElem? (i := 49) rfl))) (by decide) (t := .boolean) (t' := (.object "java/lang/String")) (by decide) (by decide)))) (Or.inr (slot_ne (Or.inr (hw _ (List.mem_of_getElem? (i := 59) rfl))) (Or.inr (hw _ (List.mem_of_getElem? (i := 51) rfl))) (by decide) (t := .boolean) (t' := (.object "java/lang/String")) (by decide) (by decide)))) (Or.inr (slot_ne (Or.inr (hw _ (List.mem_of_getElem? (i := 59) rfl))) (Or.inr (hw _ (List.mem_of_getElem? (i := 53) rfl))) (by decide) (t := .boolean) (t' := (.object "java/lang/String")) (by decide) (by decide)))) (Or.inr (slot_ne (Or.inr (hw _ (List.mem_of_getElem? (i := 59) rfl))) (Or.inr (hw _ (List.mem_of_getElem? (i := 55) rfl))) (by decide) (t := .boolean) (t' := .boolean) (by decide) (by decide)))) (Or.inr (slot_ne (Or.inr (hw _ (List.mem_of_getElem? (i := 59) rfl))) (Or.inr (hw _ (List.mem_of_getElem? (i := 57) rfl))) (by decide) (t := .boolean) (t' := (.object "com/example/longpole/longpole/Span$Kind")) (by decide) (by decide))))
  obtain ⟨T28, h28, X28, e28, W28, st28⟩ := putFN X25 hx hZ hown (hw _ (List.mem_of_getElem? (i := 58) rfl)) Via.refl e25 f30 f29 (Or.inr ⟨(hw _ (List.mem_of_getElem? (i := 59) rfl)), rfl, hnm⟩) (hw _ (List.mem_of_getElem? (i := 37) rfl)) (ty := .boolean) (v' := (.int (nar .boolean p7))) (by decide) rfl (fits_nar_bool _) (g := (mkF m 34 #[.val (.ref a1), .val v2, .val v3, .val v4, .val (.int p5), .val v6, .val (.int p7), .val v8, .val v9, .val v10, .val (.int p11), .val (.long q12), .second, .val (.long q13), .second] [(.int p7), (.ref a1)])) rfl rfl (hb hby d8_34)
  have Z28 : n0 ≤ h28.size := Nat.le_trans Z25 (Keep.of_wr W28).1
  have KK28 := Keep.wr KK25 W28 (Or.inl (List.mem_of_getElem? (i := 0) rfl))
  have N28 := Fr.snoc X28 N25 g_a1
  have Fw28 := Fld.same W28 f30
  have f32 := (Exa.wr W28 f29)
  have f33 := (Fld.other W28 (Fld.other W25 (Fld.other W22 (Fld.other W19 (Fld.other W16 (Fld.other W15 F_service_a1 (Or.inr (slot_ne (Or.inr (hw _ (List.mem_of_getElem? (i := 61) rfl))) (Or.inr (hw _ (List.mem_of_getElem? (i := 49) rfl))) (by decide) (t := (.object "java/lang/String")) (t' := (.object "java/lang/String")) (by decide) (by decide)))) (Or.inr (slot_ne (Or.inr (hw _ (List.mem_of_getElem? (i := 61) rfl))) (Or.inr (hw _ (List.mem_of_getElem? (i := 51) rfl))) (by decide) (t := (.object "java/lang/String")) (t' := (.object "java/lang/String")) (by decide) (by decide)))) (Or.inr (slot_ne (Or.inr (hw _ (List.mem_of_getElem? (i := 61) rfl))) (Or.inr (hw _ (List.mem_of_getElem? (i := 53) rfl))) (by decide) (t := (.object "java/lang/String")) (t' := (.object "java/lang/String")) (by decide) (by decide)))) (Or.inr (slot_ne (Or.inr (hw _ (List.mem_of_getElem? (i := 61) rfl))) (Or.inr (hw _ (List.mem_of_getElem? (i := 55) rfl))) (by decide) (t := (.object "java/lang/String")) (t' := .boolean) (by decide) (by decide)))) (Or.inr (slot_ne (Or.inr (hw _ (List.mem_of_getElem? (i := 61) rfl))) (Or.inr (hw _ (List.mem_of_getElem? (i := 57) rfl))) (by decide) (t := (.object "java/lang/String")) (t' := (.object "com/example/longpole/longpole/Span$Kind")) (by decide) (by decide)))) (Or.inr (slot_ne (Or.inr (hw _ (List.mem_of_getElem? (i := 61) rfl))) (Or.inr (hw _ (List.mem_of_getElem? (i := 59) rfl))) (by decide) (t := (.object "java/lang/String")) (t' := .boolean) (by decide) (by decide))))
  obtain ⟨T31, h31, X31, e31, W31, st31⟩ := putF X28 hx hZ hown (host := "") (Or.inl (hw _ (List.mem_of_getElem? (i := 60) rfl))) Via.refl e28 f33 f32 (Or.inr ⟨(hw _ (List.mem_of_getElem? (i := 61) rfl)), rfl, hnm⟩) (hw _ (List.mem_of_getElem? (i := 37) rfl)) (ty := (.object "java/lang/String")) (by decide) (own_narR _ _) (own_fitsR _ hr_v8) (g := (mkF m 40 #[.val (.ref a1), .val v2, .val v3, .val v4, .val (.int p5), .val v6, .val (.int p7), .val v8, .val v9, .val v10, .val (.int p11), .val (.long q12), .second, .val (.long q13), .second] [v8, (.ref a1)])) rfl rfl (hb hby d8_40)
  have Z31 : n0 ≤ h31.size := Nat.le_trans Z28 (Keep.of_wr W31).1
  have KK31 := Keep.wr KK28 W31 (Or.inl (List.mem_of_getElem? (i := 0) rfl))
  have N31 := Fr.snoc X31 N28 g_a1
  have Fw31 := Fld.same W31 f33
  have f35 := (Exa.wr W31 f32)
  have f36 := (Fld.other W31 (Fld.other W28 (Fld.other W25 (Fld.other W22 (Fld.other W19 (Fld.other W16 (Fld.other W15 F_name_a1 (Or.inr (slot_ne (Or.inr (hw _ (List.mem_of_getElem? (i := 63) rfl))) (Or.inr (hw _ (List.mem_of_getElem? (i := 49) rfl))) (by decide) (t := (.object "java/lang/String")) (t' := (.object "java/lang/String")) (by decide) (by decide)))) (Or.inr (slot_ne (Or.inr (hw _ (List.mem_of_getElem? (i := 63) rfl))) (Or.inr (hw _ (List.mem_of_getElem? (i := 51) rfl))) (by decide) (t := (.object "java/lang/String")) (t' := (.object "java/lang/String")) (by decide) (by decide)))) (Or.inr (slot_ne (Or.inr (hw _ (List.mem_of_getElem? (i := 63) rfl))) (Or.inr (hw _ (List.mem_of_getElem? (i := 53) rfl))) (by decide) (t := (.object "java/lang/String")) (t' := (.object "java/lang/String")) (by decide) (by decide)))) (Or.inr (slot_ne (Or.inr (hw _ (List.mem_of_getElem? (i := 63) rfl))) (Or.inr (hw _ (List.mem_of_getElem? (i := 55) rfl))) (by decide) (t := (.object "java/lang/String")) (t' := .boolean) (by decide) (by decide)))) (Or.inr (slot_ne (Or.inr (hw _ (List.mem_of_getElem? (i := 63) rfl))) (Or.inr (hw _ (List.mem_of_getElem? (i := 57) rfl))) (by decide) (t := (.object "java/lang/String")) (t' := (.object "com/example/longpole/longpole/Span$Kind")) (by decide) (by decide)))) (Or.inr (slot_ne (Or.inr (hw _ (List.mem_of_getElem? (i := 63) rfl))) (Or.inr (hw _ (List.mem_of_getElem? (i := 59) rfl))) (by decide) (t := (.object "java/lang/String")) (t' := .boolean) (by decide) (by decide)))) (Or.inr (slot_ne (Or.inr (hw _ (List.mem_of_getElem? (i := 63) rfl))) (Or.inr (hw _ (List.mem_of_getElem? (i := 61) rfl))) (by decide) (t := (.object "java/lang/String")) (t' := (.object "java/lang/String")) (by decide) (by decide))))
  obtain ⟨T34, h34, X34, e34, W34, st34⟩ := putF X31 hx hZ hown (host := "") (Or.inl (hw _ (List.mem_of_getElem? (i := 62) rfl))) Via.refl e31 f36 f35 (Or.inr ⟨(hw _ (List.mem_of_getElem? (i := 63) rfl)), rfl, hnm⟩) (hw _ (List.mem_of_getElem? (i := 37) rfl)) (ty := (.object "java/lang/String")) (by decide) (own_narR _ _) (own_fitsR _ hr_v9) (g := (mkF m 46 #[.val (.ref a1), .val v2, .val v3, .val v4, .val (.int p5), .val v6, .val (.int p7), .val v8, .val v9, .val v10, .val (.int p11), .val (.long q12), .second, .val (.long q13), .second] [v9, (.ref a1)])) rfl rfl (hb hby d8_46)
  have Z34 : n0 ≤ h34.size := Nat.le_trans Z31 (Keep.of_wr W34).1
  have KK34 := Keep.wr KK31 W34 (Or.inl (List.mem_of_getElem? (i := 0) rfl))
  have N34 := Fr.snoc X34 N31 g_a1
  have Fw34 := Fld.same W34 f36
  have f38 := (Exa.wr W34 f35)
  have f39 := (Fld.other W34 (Fld.other W31 (Fld.other W28 (Fld.other W25 (Fld.other W22 (Fld.other W19 (Fld.other W16 (Fld.other W15 F_remoteService_a1 (Or.inr (slot_ne (Or.inr (hw _ (List.mem_of_getElem? (i := 65) rfl))) (Or.inr (hw _ (List.mem_of_getElem? (i := 49) rfl))) (by decide) (t := (.object "java/lang/String")) (t' := (.object "java/lang/String")) (by decide) (by decide)))) (Or.inr (slot_ne (Or.inr (hw _ (List.mem_of_getElem? (i := 65) rfl))) (Or.inr (hw _ (List.mem_of_getElem? (i := 51) rfl))) (by decide) (t := (.object "java/lang/String")) (t' := (.object "java/lang/String")) (by decide) (by decide)))) (Or.inr (slot_ne (Or.inr (hw _ (List.mem_of_getElem? (i := 65) rfl))) (Or.inr (hw _ (List.mem_of_getElem? (i := 53) rfl))) (by decide) (t := (.object "java/lang/String")) (t' := (.object "java/lang/String")) (by decide) (by decide)))) (Or.inr (slot_ne (Or.inr (hw _ (List.mem_of_getElem? (i := 65) rfl))) (Or.inr (hw _ (List.mem_of_getElem? (i := 55) rfl))) (by decide) (t := (.object "java/lang/String")) (t' := .boolean) (by decide) (by decide)))) (Or.inr (slot_ne (Or.inr (hw _ (List.mem_of_getElem? (i := 65) rfl))) (Or.inr (hw _ (List.mem_of_getElem? (i := 57) rfl))) (by decide) (t := (.object "java/lang/String")) (t' := (.object "com/example/longpole/longpole/Span$Kind")) (by decide) (by decide)))) (Or.inr (slot_ne (Or.inr (hw _ (List.mem_of_getElem? (i := 65) rfl))) (Or.inr (hw _ (List.mem_of_getElem? (i := 59) rfl))) (by decide) (t := (.object "java/lang/String")) (t' := .boolean) (by decide) (by decide)))) (Or.inr (slot_ne (Or.inr (hw _ (List.mem_of_getElem? (i := 65) rfl))) (Or.inr (hw _ (List.mem_of_getElem? (i := 61) rfl))) (by decide) (t := (.object "java/lang/String")) (t' := (.object "java/lang/String")) (by decide) (by decide)))) (Or.inr (slot_ne (Or.inr (hw _ (List.mem_of_getElem? (i := 65) rfl))) (Or.inr (hw _ (List.mem_of_getElem? (i := 63) rfl))) (by decide) (t := (.object "java/lang/String")) (t' := (.object "java/lang/String")) (by decide) (by decide))))
  obtain ⟨T37, h37, X37, e37, W37, st37⟩ := putF X34 hx hZ hown (host := "") (Or.inl (hw _ (List.mem_of_getElem? (i := 64) rfl))) Via.refl e34 f39 f38 (Or.inr ⟨(hw _ (List.mem_of_getElem? (i := 65) rfl)), rfl, hnm⟩) (hw _ (List.mem_of_getElem? (i := 37) rfl)) (ty := (.object "java/lang/String")) (by decide) (own_narR _ _) (own_fitsR _ hr_v10) (g := (mkF m 52 #[.val (.ref a1), .val v2, .val v3, .val v4, .val (.int p5), .val v6, .val (.int p7), .val v8, .val v9, .val v10, .val (.int p11), .val (.long q12), .second, .val (.long q13), .second] [v10, (.ref a1)])) rfl rfl (hb hby d8_52)
  have Z37 : n0 ≤ h37.size := Nat.le_trans Z34 (Keep.of_wr W37).1
  have KK37 := Keep.wr KK34 W37 (Or.inl (List.mem_of_getElem? (i := 0) rfl))
  have N37 := Fr.snoc X37 N34 g_a1
  have Fw37 := Fld.same W37 f39
  have f41 := (Exa.wr W37 f38)
  have f42 := (Fld.other W37 (Fld.other W34 (Fld.other W31 (Fld.other W28 (Fld.other W25 (Fld.other W22 (Fld.other W19 (Fld.other W16 (Fld.other W15 F_hasTimestamp_a1 (Or.inr (slot_ne (Or.inr (hw _ (List.mem_of_getElem? (i := 67) rfl))) (Or.inr (hw _ (List.mem_of_getElem? (i := 49) rfl))) (by decide) (t := .boolean) (t' := (.object "java/lang/String")) (by decide) (by decide)))) (Or.inr (slot_ne (Or.inr (hw _ (List.mem_of_getElem? (i := 67) rfl))) (Or.inr (hw _ (List.mem_of_getElem? (i := 51) rfl))) (by decide) (t := .boolean) (t' := (.object "java/lang/String")) (by decide) (by decide)))) (Or.inr (slot_ne (Or.inr (hw _ (List.mem_of_getElem? (i := 67) rfl))) (Or.inr (hw _ (List.mem_of_getElem? (i := 53) rfl))) (by decide) (t := .boolean) (t' := (.object "java/lang/String")) (by decide) (by decide)))) (Or.inr (slot_ne (Or.inr (hw _ (List.mem_of_getElem? (i := 67) rfl))) (Or.inr (hw _ (List.mem_of_getElem? (i := 55) rfl))) (by decide) (t := .boolean) (t' := .boolean) (by decide) (by decide)))) (Or.inr (slot_ne (Or.inr (hw _ (List.mem_of_getElem? (i := 67) rfl))) (Or.inr (hw _ (List.mem_of_getElem? (i := 57) rfl))) (by decide) (t := .boolean) (t' := (.object "com/example/longpole/longpole/Span$Kind")) (by decide) (by decide)))) (Or.inr (slot_ne (Or.inr (hw _ (List.mem_of_getElem? (i := 67) rfl))) (Or.inr (hw _ (List.mem_of_getElem? (i := 59) rfl))) (by decide) (t := .boolean) (t' := .boolean) (by decide) (by decide)))) (Or.inr (slot_ne (Or.inr (hw _ (List.mem_of_getElem? (i := 67) rfl))) (Or.inr (hw _ (List.mem_of_getElem? (i := 61) rfl))) (by decide) (t := .boolean) (t' := (.object "java/lang/String")) (by decide) (by decide)))) (Or.inr (slot_ne (Or.inr (hw _ (List.mem_of_getElem? (i := 67) rfl))) (Or.inr (hw _ (List.mem_of_getElem? (i := 63) rfl))) (by decide) (t := .boolean) (t' := (.object "java/lang/String")) (by decide) (by decide)))) (Or.inr (slot_ne (Or.inr (hw _ (List.mem_of_getElem? (i := 67) rfl))) (Or.inr (hw _ (List.mem_of_getElem? (i := 65) rfl))) (by decide) (t := .boolean) (t' := (.object "java/lang/String")) (by decide) (by decide))))
  obtain ⟨T40, h40, X40, e40, W40, st40⟩ := putFN X37 hx hZ hown (hw _ (List.mem_of_getElem? (i := 66) rfl)) Via.refl e37 f42 f41 (Or.inr ⟨(hw _ (List.mem_of_getElem? (i := 67) rfl)), rfl, hnm⟩) (hw _ (List.mem_of_getElem? (i := 37) rfl)) (ty := .boolean) (v' := (.int (nar .boolean p11))) (by decide) rfl (fits_nar_bool _) (g := (mkF m 58 #[.val (.ref a1), .val v2, .val v3, .val v4, .val (.int p5), .val v6, .val (.int p7), .val v8, .val v9, .val v10, .val (.int p11), .val (.long q12), .second, .val (.long q13), .second] [(.int p11), (.ref a1)])) rfl rfl (hb hby d8_58)
  have Z40 : n0 ≤ h40.size := Nat.le_trans Z37 (Keep.of_wr W40).1
  have KK40 := Keep.wr KK37 W40 (Or.inl (List.mem_of_getElem? (i := 0) rfl))
  have N40 := Fr.snoc X40 N37 g_a1
  have Fw40 := Fld.same W40 f42
  have f44 := (Exa.wr W40 f41)
  have f45 := (Fld.other W40 (Fld.other W37 (Fld.other W34 (Fld.other W31 (Fld.other W28 (Fld.other W25 (Fld.other W22 (Fld.other W19 (Fld.other W16 (Fld.other W15 F_startMicros_a1 (Or.inr (slot_ne (Or.inr (hw _ (List.mem_of_getElem? (i := 69) rfl))) (Or.inr (hw _ (List.mem_of_getElem? (i := 49) rfl))) (by decide) (t := .long) (t' := (.object "java/lang/String")) (by decide) (by decide)))) (Or.inr (slot_ne (Or.inr (hw _ (List.mem_of_getElem? (i := 69) rfl))) (Or.inr (hw _ (List.mem_of_getElem? (i := 51) rfl))) (by decide) (t := .long) (t' := (.object "java/lang/String")) (by decide) (by decide)))) (Or.inr (slot_ne (Or.inr (hw _ (List.mem_of_getElem? (i := 69) rfl))) (Or.inr (hw _ (List.mem_of_getElem? (i := 53) rfl))) (by decide) (t := .long) (t' := (.object "java/lang/String")) (by decide) (by decide)))) (Or.inr (slot_ne (Or.inr (hw _ (List.mem_of_getElem? (i := 69) rfl))) (Or.inr (hw _ (List.mem_of_getElem? (i := 55) rfl))) (by decide) (t := .long) (t' := .boolean) (by decide) (by decide)))) (Or.inr (slot_ne (Or.inr (hw _ (List.mem_of_getElem? (i := 69) rfl))) (Or.inr (hw _ (List.mem_of_getElem? (i := 57) rfl))) (by decide) (t := .long) (t' := (.object "com/example/longpole/longpole/Span$Kind")) (by decide) (by decide)))) (Or.inr (slot_ne (Or.inr (hw _ (List.mem_of_getElem? (i := 69) rfl))) (Or.inr (hw _ (List.mem_of_getElem? (i := 59) rfl))) (by decide) (t := .long) (t' := .boolean) (by decide) (by decide)))) (Or.inr (slot_ne (Or.inr (hw _ (List.mem_of_getElem? (i := 69) rfl))) (Or.inr (hw _ (List.mem_of_getElem? (i := 61) rfl))) (by decide) (t := .long) (t' := (.object "java/lang/String")) (by decide) (by decide)))) (Or.inr (slot_ne (Or.inr (hw _ (List.mem_of_getElem? (i := 69) rfl))) (Or.inr (hw _ (List.mem_of_getElem? (i := 63) rfl))) (by decide) (t := .long) (t' := (.object "java/lang/String")) (by decide) (by decide)))) (Or.inr (slot_ne (Or.inr (hw _ (List.mem_of_getElem? (i := 69) rfl))) (Or.inr (hw _ (List.mem_of_getElem? (i := 65) rfl))) (by decide) (t := .long) (t' := (.object "java/lang/String")) (by decide) (by decide)))) (Or.inr (slot_ne (Or.inr (hw _ (List.mem_of_getElem? (i := 69) rfl))) (Or.inr (hw _ (List.mem_of_getElem? (i := 67) rfl))) (by decide) (t := .long) (t' := .boolean) (by decide) (by decide))))
  obtain ⟨T43, h43, X43, e43, W43, st43⟩ := putF X40 hx hZ hown (host := "") (Or.inl (hw _ (List.mem_of_getElem? (i := 68) rfl))) Via.refl e40 f45 f44 (Or.inr ⟨(hw _ (List.mem_of_getElem? (i := 69) rfl)), rfl, hnm⟩) (hw _ (List.mem_of_getElem? (i := 37) rfl)) (ty := .long) (by decide) rfl rfl (g := (mkF m 64 #[.val (.ref a1), .val v2, .val v3, .val v4, .val (.int p5), .val v6, .val (.int p7), .val v8, .val v9, .val v10, .val (.int p11), .val (.long q12), .second, .val (.long q13), .second] [(.long q12), (.ref a1)])) rfl rfl (hb hby d8_64)
  have Z43 : n0 ≤ h43.size := Nat.le_trans Z40 (Keep.of_wr W43).1
  have KK43 := Keep.wr KK40 W43 (Or.inl (List.mem_of_getElem? (i := 0) rfl))
  have N43 := Fr.snoc X43 N40 g_a1
  have Fw43 := Fld.same W43 f45
  have f47 := (Exa.wr W43 f44)
  have f48 := (Fld.other W43 (Fld.other W40 (Fld.other W37 (Fld.other W34 (Fld.other W31 (Fld.other W28 (Fld.other W25 (Fld.other W22 (Fld.other W19 (Fld.other W16 (Fld.other W15 F_durationMicros_a1 (Or.inr (slot_ne (Or.inr (hw _ (List.mem_of_getElem? (i := 71) rfl))) (Or.inr (hw _ (List.mem_of_getElem? (i := 49) rfl))) (by decide) (t := .long) (t' := (.object "java/lang/String")) (by decide) (by decide)))) (Or.inr (slot_ne (Or.inr (hw _ (List.mem_of_getElem? (i := 71) rfl))) (Or.inr (hw _ (List.mem_of_getElem? (i := 51) rfl))) (by decide) (t := .long) (t' := (.object "java/lang/String")) (by decide) (by decide)))) (Or.inr (slot_ne (Or.inr (hw _ (List.mem_of_getElem? (i := 71) rfl))) (Or.inr (hw _ (List.mem_of_getElem? (i := 53) rfl))) (by decide) (t := .long) (t' := (.object "java/lang/String")) (by decide) (by decide)))) (Or.inr (slot_ne (Or.inr (hw _ (List.mem_of_getElem? (i := 71) rfl))) (Or.inr (hw _ (List.mem_of_getElem? (i := 55) rfl))) (by decide) (t := .long) (t' := .boolean) (by decide) (by decide)))) (Or.inr (slot_ne (Or.inr (hw _ (List.mem_of_getElem? (i := 71) rfl))) (Or.inr (hw _ (List.mem_of_getElem? (i := 57) rfl))) (by decide) (t := .long) (t' := (.object "com/example/longpole/longpole/Span$Kind")) (by decide) (by decide)))) (Or.inr (slot_ne (Or.inr (hw _ (List.mem_of_getElem? (i := 71) rfl))) (Or.inr (hw _ (List.mem_of_getElem? (i := 59) rfl))) (by decide) (t := .long) (t' := .boolean) (by decide) (by decide)))) (Or.inr (slot_ne (Or.inr (hw _ (List.mem_of_getElem? (i := 71) rfl))) (Or.inr (hw _ (List.mem_of_getElem? (i := 61) rfl))) (by decide) (t := .long) (t' := (.object "java/lang/String")) (by decide) (by decide)))) (Or.inr (slot_ne (Or.inr (hw _ (List.mem_of_getElem? (i := 71) rfl))) (Or.inr (hw _ (List.mem_of_getElem? (i := 63) rfl))) (by decide) (t := .long) (t' := (.object "java/lang/String")) (by decide) (by decide)))) (Or.inr (slot_ne (Or.inr (hw _ (List.mem_of_getElem? (i := 71) rfl))) (Or.inr (hw _ (List.mem_of_getElem? (i := 65) rfl))) (by decide) (t := .long) (t' := (.object "java/lang/String")) (by decide) (by decide)))) (Or.inr (slot_ne (Or.inr (hw _ (List.mem_of_getElem? (i := 71) rfl))) (Or.inr (hw _ (List.mem_of_getElem? (i := 67) rfl))) (by decide) (t := .long) (t' := .boolean) (by decide) (by decide)))) (Or.inr (slot_ne (Or.inr (hw _ (List.mem_of_getElem? (i := 71) rfl))) (Or.inr (hw _ (List.mem_of_getElem? (i := 69) rfl))) (by decide) (t := .long) (t' := .long) (by decide) (by decide))))
  obtain ⟨T46, h46, X46, e46, W46, st46⟩ := putF X43 hx hZ hown (host := "") (Or.inl (hw _ (List.mem_of_getElem? (i := 70) rfl))) Via.refl e43 f48 f47 (Or.inr ⟨(hw _ (List.mem_of_getElem? (i := 71) rfl)), rfl, hnm⟩) (hw _ (List.mem_of_getElem? (i := 37) rfl)) (ty := .long) (by decide) rfl rfl (g := (mkF m 70 #[.val (.ref a1), .val v2, .val v3, .val v4, .val (.int p5), .val v6, .val (.int p7), .val v8, .val v9, .val v10, .val (.int p11), .val (.long q12), .second, .val (.long q13), .second] [(.long q13), (.ref a1)])) rfl rfl (hb hby d8_70)
  have Z46 : n0 ≤ h46.size := Nat.le_trans Z43 (Keep.of_wr W46).1
  have KK46 := Keep.wr KK43 W46 (Or.inl (List.mem_of_getElem? (i := 0) rfl))
  have N46 := Fr.snoc X46 N43 g_a1
  have Fw46 := Fld.same W46 f48
  obtain ⟨fs, hr, hrun, hended, hW, hsame⟩ := X46.leave (v := none) (fun _ => rfl)
  have f49 := (Exa.wr W46 f47)
  have f50 := (Fld.other W46 (Fld.other W43 (Fld.other W40 (Fld.other W37 (Fld.other W34 (Fld.other W31 (Fld.other W28 (Fld.other W25 (Fld.other W22 (Fld.other W19 (Fld.other W16 Fw15 (Or.inr (slot_ne (Or.inr (hw _ (List.mem_of_getElem? (i := 49) rfl))) (Or.inr (hw _ (List.mem_of_getElem? (i := 51) rfl))) (by decide) (t := (.object "java/lang/String")) (t' := (.object "java/lang/String")) (by decide) (by decide)))) (Or.inr (slot_ne (Or.inr (hw _ (List.mem_of_getElem? (i := 49) rfl))) (Or.inr (hw _ (List.mem_of_getElem? (i := 53) rfl))) (by decide) (t := (.object "java/lang/String")) (t' := (.object "java/lang/String")) (by decide) (by decide)))) (Or.inr (slot_ne (Or.inr (hw _ (List.mem_of_getElem? (i := 49) rfl))) (Or.inr (hw _ (List.mem_of_getElem? (i := 55) rfl))) (by decide) (t := (.object "java/lang/String")) (t' := .boolean) (by decide) (by decide)))) (Or.inr (slot_ne (Or.inr (hw _ (List.mem_of_getElem? (i := 49) rfl))) (Or.inr (hw _ (List.mem_of_getElem? (i := 57) rfl))) (by decide) (t := (.object "java/lang/String")) (t' := (.object "com/example/longpole/longpole/Span$Kind")) (by decide) (by decide)))) (Or.inr (slot_ne (Or.inr (hw _ (List.mem_of_getElem? (i := 49) rfl))) (Or.inr (hw _ (List.mem_of_getElem? (i := 59) rfl))) (by decide) (t := (.object "java/lang/String")) (t' := .boolean) (by decide) (by decide)))) (Or.inr (slot_ne (Or.inr (hw _ (List.mem_of_getElem? (i := 49) rfl))) (Or.inr (hw _ (List.mem_of_getElem? (i := 61) rfl))) (by decide) (t := (.object "java/lang/String")) (t' := (.object "java/lang/String")) (by decide) (by decide)))) (Or.inr (slot_ne (Or.inr (hw _ (List.mem_of_getElem? (i := 49) rfl))) (Or.inr (hw _ (List.mem_of_getElem? (i := 63) rfl))) (by decide) (t := (.object "java/lang/String")) (t' := (.object "java/lang/String")) (by decide) (by decide)))) (Or.inr (slot_ne (Or.inr (hw _ (List.mem_of_getElem? (i := 49) rfl))) (Or.inr (hw _ (List.mem_of_getElem? (i := 65) rfl))) (by decide) (t := (.object "java/lang/String")) (t' := (.object "java/lang/String")) (by decide) (by decide)))) (Or.inr (slot_ne (Or.inr (hw _ (List.mem_of_getElem? (i := 49) rfl))) (Or.inr (hw _ (List.mem_of_getElem? (i := 67) rfl))) (by decide) (t := (.object "java/lang/String")) (t' := .boolean) (by decide) (by decide)))) (Or.inr (slot_ne (Or.inr (hw _ (List.mem_of_getElem? (i := 49) rfl))) (Or.inr (hw _ (List.mem_of_getElem? (i := 69) rfl))) (by decide) (t := (.object "java/lang/String")) (t' := .long) (by decide) (by decide)))) (Or.inr (slot_ne (Or.inr (hw _ (List.mem_of_getElem? (i := 49) rfl))) (Or.inr (hw _ (List.mem_of_getElem? (i := 71) rfl))) (by decide) (t := (.object "java/lang/String")) (t' := .long) (by decide) (by decide))))
  have f51 := (Fld.other W46 (Fld.other W43 (Fld.other W40 (Fld.other W37 (Fld.other W34 (Fld.other W31 (Fld.other W28 (Fld.other W25 (Fld.other W22 (Fld.other W19 Fw16 (Or.inr (slot_ne (Or.inr (hw _ (List.mem_of_getElem? (i := 51) rfl))) (Or.inr (hw _ (List.mem_of_getElem? (i := 53) rfl))) (by decide) (t := (.object "java/lang/String")) (t' := (.object "java/lang/String")) (by decide) (by decide)))) (Or.inr (slot_ne (Or.inr (hw _ (List.mem_of_getElem? (i := 51) rfl))) (Or.inr (hw _ (List.mem_of_getElem? (i := 55) rfl))) (by decide) (t := (.object "java/lang/String")) (t' := .boolean) (by decide) (by decide)))) (Or.inr (slot_ne (Or.inr (hw _ (List.mem_of_getElem? (i := 51) rfl))) (Or.inr (hw _ (List.mem_of_getElem? (i := 57) rfl))) (by decide) (t := (.object "java/lang/String")) (t' := (.object "com/example/longpole/longpole/Span$Kind")) (by decide) (by decide)))) (Or.inr (slot_ne (Or.inr (hw _ (List.mem_of_getElem? (i := 51) rfl))) (Or.inr (hw _ (List.mem_of_getElem? (i := 59) rfl))) (by decide) (t := (.object "java/lang/String")) (t' := .boolean) (by decide) (by decide)))) (Or.inr (slot_ne (Or.inr (hw _ (List.mem_of_getElem? (i := 51) rfl))) (Or.inr (hw _ (List.mem_of_getElem? (i := 61) rfl))) (by decide) (t := (.object "java/lang/String")) (t' := (.object "java/lang/String")) (by decide) (by decide)))) (Or.inr (slot_ne (Or.inr (hw _ (List.mem_of_getElem? (i := 51) rfl))) (Or.inr (hw _ (List.mem_of_getElem? (i := 63) rfl))) (by decide) (t := (.object "java/lang/String")) (t' := (.object "java/lang/String")) (by decide) (by decide)))) (Or.inr (slot_ne (Or.inr (hw _ (List.mem_of_getElem? (i := 51) rfl))) (Or.inr (hw _ (List.mem_of_getElem? (i := 65) rfl))) (by decide) (t := (.object "java/lang/String")) (t' := (.object "java/lang/String")) (by decide) (by decide)))) (Or.inr (slot_ne (Or.inr (hw _ (List.mem_of_getElem? (i := 51) rfl))) (Or.inr (hw _ (List.mem_of_getElem? (i := 67) rfl))) (by decide) (t := (.object "java/lang/String")) (t' := .boolean) (by decide) (by decide)))) (Or.inr (slot_ne (Or.inr (hw _ (List.mem_of_getElem? (i := 51) rfl))) (Or.inr (hw _ (List.mem_of_getElem? (i := 69) rfl))) (by decide) (t := (.object "java/lang/String")) (t' := .long) (by decide) (by decide)))) (Or.inr (slot_ne (Or.inr (hw _ (List.mem_of_getElem? (i := 51) rfl))) (Or.inr (hw _ (List.mem_of_getElem? (i := 71) rfl))) (by decide) (t := (.object "java/lang/String")) (t' := .long) (by decide) (by decide))))
  have f52 := (Fld.other W46 (Fld.other W43 (Fld.other W40 (Fld.other W37 (Fld.other W34 (Fld.other W31 (Fld.other W28 (Fld.other W25 (Fld.other W22 Fw19 (Or.inr (slot_ne (Or.inr (hw _ (List.mem_of_getElem? (i := 53) rfl))) (Or.inr (hw _ (List.mem_of_getElem? (i := 55) rfl))) (by decide) (t := (.object "java/lang/String")) (t' := .boolean) (by decide) (by decide)))) (Or.inr (slot_ne (Or.inr (hw _ (List.mem_of_getElem? (i := 53) rfl))) (Or.inr (hw _ (List.mem_of_getElem? (i := 57) rfl))) (by decide) (t := (.object "java/lang/String")) (t' := (.object "com/example/longpole/longpole/Span$Kind")) (by decide) (by decide)))) (Or.inr (slot_ne (Or.inr (hw _ (List.mem_of_getElem? (i := 53) rfl))) (Or.inr (hw _ (List.mem_of_getElem? (i := 59) rfl))) (by decide) (t := (.object "java/lang/String")) (t' := .boolean) (by decide) (by decide)))) (Or.inr (slot_ne (Or.inr (hw _ (List.mem_of_getElem? (i := 53) rfl))) (Or.inr (hw _ (List.mem_of_getElem? (i := 61) rfl))) (by decide) (t := (.object "java/lang/String")) (t' := (.object "java/lang/String")) (by decide) (by decide)))) (Or.inr (slot_ne (Or.inr (hw _ (List.mem_of_getElem? (i := 53) rfl))) (Or.inr (hw _ (List.mem_of_getElem? (i := 63) rfl))) (by decide) (t := (.object "java/lang/String")) (t' := (.object "java/lang/String")) (by decide) (by decide)))) (Or.inr (slot_ne (Or.inr (hw _ (List.mem_of_getElem? (i := 53) rfl))) (Or.inr (hw _ (List.mem_of_getElem? (i := 65) rfl))) (by decide) (t := (.object "java/lang/String")) (t' := (.object "java/lang/String")) (by decide) (by decide)))) (Or.inr (slot_ne (Or.inr (hw _ (List.mem_of_getElem? (i := 53) rfl))) (Or.inr (hw _ (List.mem_of_getElem? (i := 67) rfl))) (by decide) (t := (.object "java/lang/String")) (t' := .boolean) (by decide) (by decide)))) (Or.inr (slot_ne (Or.inr (hw _ (List.mem_of_getElem? (i := 53) rfl))) (Or.inr (hw _ (List.mem_of_getElem? (i := 69) rfl))) (by decide) (t := (.object "java/lang/String")) (t' := .long) (by decide) (by decide)))) (Or.inr (slot_ne (Or.inr (hw _ (List.mem_of_getElem? (i := 53) rfl))) (Or.inr (hw _ (List.mem_of_getElem? (i := 71) rfl))) (by decide) (t := (.object "java/lang/String")) (t' := .long) (by decide) (by decide))))
  have f53 := (Fld.other W46 (Fld.other W43 (Fld.other W40 (Fld.other W37 (Fld.other W34 (Fld.other W31 (Fld.other W28 (Fld.other W25 Fw22 (Or.inr (slot_ne (Or.inr (hw _ (List.mem_of_getElem? (i := 55) rfl))) (Or.inr (hw _ (List.mem_of_getElem? (i := 57) rfl))) (by decide) (t := .boolean) (t' := (.object "com/example/longpole/longpole/Span$Kind")) (by decide) (by decide)))) (Or.inr (slot_ne (Or.inr (hw _ (List.mem_of_getElem? (i := 55) rfl))) (Or.inr (hw _ (List.mem_of_getElem? (i := 59) rfl))) (by decide) (t := .boolean) (t' := .boolean) (by decide) (by decide)))) (Or.inr (slot_ne (Or.inr (hw _ (List.mem_of_getElem? (i := 55) rfl))) (Or.inr (hw _ (List.mem_of_getElem? (i := 61) rfl))) (by decide) (t := .boolean) (t' := (.object "java/lang/String")) (by decide) (by decide)))) (Or.inr (slot_ne (Or.inr (hw _ (List.mem_of_getElem? (i := 55) rfl))) (Or.inr (hw _ (List.mem_of_getElem? (i := 63) rfl))) (by decide) (t := .boolean) (t' := (.object "java/lang/String")) (by decide) (by decide)))) (Or.inr (slot_ne (Or.inr (hw _ (List.mem_of_getElem? (i := 55) rfl))) (Or.inr (hw _ (List.mem_of_getElem? (i := 65) rfl))) (by decide) (t := .boolean) (t' := (.object "java/lang/String")) (by decide) (by decide)))) (Or.inr (slot_ne (Or.inr (hw _ (List.mem_of_getElem? (i := 55) rfl))) (Or.inr (hw _ (List.mem_of_getElem? (i := 67) rfl))) (by decide) (t := .boolean) (t' := .boolean) (by decide) (by decide)))) (Or.inr (slot_ne (Or.inr (hw _ (List.mem_of_getElem? (i := 55) rfl))) (Or.inr (hw _ (List.mem_of_getElem? (i := 69) rfl))) (by decide) (t := .boolean) (t' := .long) (by decide) (by decide)))) (Or.inr (slot_ne (Or.inr (hw _ (List.mem_of_getElem? (i := 55) rfl))) (Or.inr (hw _ (List.mem_of_getElem? (i := 71) rfl))) (by decide) (t := .boolean) (t' := .long) (by decide) (by decide))))
  have f54 := (Fld.other W46 (Fld.other W43 (Fld.other W40 (Fld.other W37 (Fld.other W34 (Fld.other W31 (Fld.other W28 Fw25 (Or.inr (slot_ne (Or.inr (hw _ (List.mem_of_getElem? (i := 57) rfl))) (Or.inr (hw _ (List.mem_of_getElem? (i := 59) rfl))) (by decide) (t := (.object "com/example/longpole/longpole/Span$Kind")) (t' := .boolean) (by decide) (by decide)))) (Or.inr (slot_ne (Or.inr (hw _ (List.mem_of_getElem? (i := 57) rfl))) (Or.inr (hw _ (List.mem_of_getElem? (i := 61) rfl))) (by decide) (t := (.object "com/example/longpole/longpole/Span$Kind")) (t' := (.object "java/lang/String")) (by decide) (by decide)))) (Or.inr (slot_ne (Or.inr (hw _ (List.mem_of_getElem? (i := 57) rfl))) (Or.inr (hw _ (List.mem_of_getElem? (i := 63) rfl))) (by decide) (t := (.object "com/example/longpole/longpole/Span$Kind")) (t' := (.object "java/lang/String")) (by decide) (by decide)))) (Or.inr (slot_ne (Or.inr (hw _ (List.mem_of_getElem? (i := 57) rfl))) (Or.inr (hw _ (List.mem_of_getElem? (i := 65) rfl))) (by decide) (t := (.object "com/example/longpole/longpole/Span$Kind")) (t' := (.object "java/lang/String")) (by decide) (by decide)))) (Or.inr (slot_ne (Or.inr (hw _ (List.mem_of_getElem? (i := 57) rfl))) (Or.inr (hw _ (List.mem_of_getElem? (i := 67) rfl))) (by decide) (t := (.object "com/example/longpole/longpole/Span$Kind")) (t' := .boolean) (by decide) (by decide)))) (Or.inr (slot_ne (Or.inr (hw _ (List.mem_of_getElem? (i := 57) rfl))) (Or.inr (hw _ (List.mem_of_getElem? (i := 69) rfl))) (by decide) (t := (.object "com/example/longpole/longpole/Span$Kind")) (t' := .long) (by decide) (by decide)))) (Or.inr (slot_ne (Or.inr (hw _ (List.mem_of_getElem? (i := 57) rfl))) (Or.inr (hw _ (List.mem_of_getElem? (i := 71) rfl))) (by decide) (t := (.object "com/example/longpole/longpole/Span$Kind")) (t' := .long) (by decide) (by decide))))
  have f55 := (Fld.other W46 (Fld.other W43 (Fld.other W40 (Fld.other W37 (Fld.other W34 (Fld.other W31 Fw28 (Or.inr (slot_ne (Or.inr (hw _ (List.mem_of_getElem? (i := 59) rfl))) (Or.inr (hw _ (List.mem_of_getElem? (i := 61) rfl))) (by decide) (t := .boolean) (t' := (.object "java/lang/String")) (by decide) (by decide)))) (Or.inr (slot_ne (Or.inr (hw _ (List.mem_of_getElem? (i := 59) rfl))) (Or.inr (hw _ (List.mem_of_getElem? (i := 63) rfl))) (by decide) (t := .boolean) (t' := (.object "java/lang/String")) (by decide) (by decide)))) (Or.inr (slot_ne (Or.inr (hw _ (List.mem_of_getElem? (i := 59) rfl))) (Or.inr (hw _ (List.mem_of_getElem? (i := 65) rfl))) (by decide) (t := .boolean) (t' := (.object "java/lang/String")) (by decide) (by decide)))) (Or.inr (slot_ne (Or.inr (hw _ (List.mem_of_getElem? (i := 59) rfl))) (Or.inr (hw _ (List.mem_of_getElem? (i := 67) rfl))) (by decide) (t := .boolean) (t' := .boolean) (by decide) (by decide)))) (Or.inr (slot_ne (Or.inr (hw _ (List.mem_of_getElem? (i := 59) rfl))) (Or.inr (hw _ (List.mem_of_getElem? (i := 69) rfl))) (by decide) (t := .boolean) (t' := .long) (by decide) (by decide)))) (Or.inr (slot_ne (Or.inr (hw _ (List.mem_of_getElem? (i := 59) rfl))) (Or.inr (hw _ (List.mem_of_getElem? (i := 71) rfl))) (by decide) (t := .boolean) (t' := .long) (by decide) (by decide))))
  have f56 := (Fld.other W46 (Fld.other W43 (Fld.other W40 (Fld.other W37 (Fld.other W34 Fw31 (Or.inr (slot_ne (Or.inr (hw _ (List.mem_of_getElem? (i := 61) rfl))) (Or.inr (hw _ (List.mem_of_getElem? (i := 63) rfl))) (by decide) (t := (.object "java/lang/String")) (t' := (.object "java/lang/String")) (by decide) (by decide)))) (Or.inr (slot_ne (Or.inr (hw _ (List.mem_of_getElem? (i := 61) rfl))) (Or.inr (hw _ (List.mem_of_getElem? (i := 65) rfl))) (by decide) (t := (.object "java/lang/String")) (t' := (.object "java/lang/String")) (by decide) (by decide)))) (Or.inr (slot_ne (Or.inr (hw _ (List.mem_of_getElem? (i := 61) rfl))) (Or.inr (hw _ (List.mem_of_getElem? (i := 67) rfl))) (by decide) (t := (.object "java/lang/String")) (t' := .boolean) (by decide) (by decide)))) (Or.inr (slot_ne (Or.inr (hw _ (List.mem_of_getElem? (i := 61) rfl))) (Or.inr (hw _ (List.mem_of_getElem? (i := 69) rfl))) (by decide) (t := (.object "java/lang/String")) (t' := .long) (by decide) (by decide)))) (Or.inr (slot_ne (Or.inr (hw _ (List.mem_of_getElem? (i := 61) rfl))) (Or.inr (hw _ (List.mem_of_getElem? (i := 71) rfl))) (by decide) (t := (.object "java/lang/String")) (t' := .long) (by decide) (by decide))))
  have f57 := (Fld.other W46 (Fld.other W43 (Fld.other W40 (Fld.other W37 Fw34 (Or.inr (slot_ne (Or.inr (hw _ (List.mem_of_getElem? (i := 63) rfl))) (Or.inr (hw _ (List.mem_of_getElem? (i := 65) rfl))) (by decide) (t := (.object "java/lang/String")) (t' := (.object "java/lang/String")) (by decide) (by decide)))) (Or.inr (slot_ne (Or.inr (hw _ (List.mem_of_getElem? (i := 63) rfl))) (Or.inr (hw _ (List.mem_of_getElem? (i := 67) rfl))) (by decide) (t := (.object "java/lang/String")) (t' := .boolean) (by decide) (by decide)))) (Or.inr (slot_ne (Or.inr (hw _ (List.mem_of_getElem? (i := 63) rfl))) (Or.inr (hw _ (List.mem_of_getElem? (i := 69) rfl))) (by decide) (t := (.object "java/lang/String")) (t' := .long) (by decide) (by decide)))) (Or.inr (slot_ne (Or.inr (hw _ (List.mem_of_getElem? (i := 63) rfl))) (Or.inr (hw _ (List.mem_of_getElem? (i := 71) rfl))) (by decide) (t := (.object "java/lang/String")) (t' := .long) (by decide) (by decide))))
  have f58 := (Fld.other W46 (Fld.other W43 (Fld.other W40 Fw37 (Or.inr (slot_ne (Or.inr (hw _ (List.mem_of_getElem? (i := 65) rfl))) (Or.inr (hw _ (List.mem_of_getElem? (i := 67) rfl))) (by decide) (t := (.object "java/lang/String")) (t' := .boolean) (by decide) (by decide)))) (Or.inr (slot_ne (Or.inr (hw _ (List.mem_of_getElem? (i := 65) rfl))) (Or.inr (hw _ (List.mem_of_getElem? (i := 69) rfl))) (by decide) (t := (.object "java/lang/String")) (t' := .long) (by decide) (by decide)))) (Or.inr (slot_ne (Or.inr (hw _ (List.mem_of_getElem? (i := 65) rfl))) (Or.inr (hw _ (List.mem_of_getElem? (i := 71) rfl))) (by decide) (t := (.object "java/lang/String")) (t' := .long) (by decide) (by decide))))
  have f59 := (Fld.other W46 (Fld.other W43 Fw40 (Or.inr (slot_ne (Or.inr (hw _ (List.mem_of_getElem? (i := 67) rfl))) (Or.inr (hw _ (List.mem_of_getElem? (i := 69) rfl))) (by decide) (t := .boolean) (t' := .long) (by decide) (by decide)))) (Or.inr (slot_ne (Or.inr (hw _ (List.mem_of_getElem? (i := 67) rfl))) (Or.inr (hw _ (List.mem_of_getElem? (i := 71) rfl))) (by decide) (t := .boolean) (t' := .long) (by decide) (by decide))))
  have f60 := (Fld.other W46 Fw43 (Or.inr (slot_ne (Or.inr (hw _ (List.mem_of_getElem? (i := 69) rfl))) (Or.inr (hw _ (List.mem_of_getElem? (i := 71) rfl))) (by decide) (t := .long) (t' := .long) (by decide) (by decide))))
  refine ⟨_, _, pre0 _ ?_, hrun, hended, _, _, rfl, ?_, ⟨_, rfl⟩, hW, hsame.mono (by decide) (by decide)⟩
  · show Steps p.tables e below (s₁.setTop (mkF m 0 #[.val (.ref a1), .val v2, .val v3, .val v4, .val (.int p5), .val v6, .val (.int p7), .val v8, .val v9, .val v10, .val (.int p11), .val (.long q12), .second, .val (.long q13), .second] [])) _
    refine XS.aloadN X0.here hx rfl (hb hby d8_0) rfl rfl ?_
    show Steps p.tables e below (s₁.setTop (mkF m 1 #[.val (.ref a1), .val v2, .val v3, .val v4, .val (.int p5), .val v6, .val (.int p7), .val v8, .val v9, .val v10, .val (.int p11), .val (.long q12), .second, .val (.long q13), .second] [(.ref a1)])) _
    refine st14.trans ?_
    show Steps p.tables e below (T14.setTop (mkF m 4 #[.val (.ref a1), .val v2, .val v3, .val v4, .val (.int p5), .val v6, .val (.int p7), .val v8, .val v9, .val v10, .val (.int p11), .val (.long q12), .second, .val (.long q13), .second] [])) _
    refine XS.aloadN X14.here hx rfl (hb hby d8_4) rfl rfl ?_
    show Steps p.tables e below (T14.setTop (mkF m 5 #[.val (.ref a1), .val v2, .val v3, .val v4, .val (.int p5), .val v6, .val (.int p7), .val v8, .val v9, .val v10, .val (.int p11), .val (.long q12), .second, .val (.long q13), .second] [(.ref a1)])) _
    refine XS.aloadN X14.here hx rfl (hb hby d8_5) rfl hr_v2 ?_
    show Steps p.tables e below (T14.setTop (mkF m 6 #[.val (.ref a1), .val v2, .val v3, .val v4, .val (.int p5), .val v6, .val (.int p7), .val v8, .val v9, .val v10, .val (.int p11), .val (.long q12), .second, .val (.long q13), .second] [v2, (.ref a1)])) _
    refine st15 _ ?_
    show Steps p.tables e below (T15.setTop (mkF m 9 #[.val (.ref a1), .val v2, .val v3, .val v4, .val (.int p5), .val v6, .val (.int p7), .val v8, .val v9, .val v10, .val (.int p11), .val (.long q12), .second, .val (.long q13), .second] [])) _
    refine XS.aloadN X15.here hx rfl (hb hby d8_9) rfl rfl ?_
    show Steps p.tables e below (T15.setTop (mkF m 10 #[.val (.ref a1), .val v2, .val v3, .val v4, .val (.int p5), .val v6, .val (.int p7), .val v8, .val v9, .val v10, .val (.int p11), .val (.long q12), .second, .val (.long q13), .second] [(.ref a1)])) _
    refine XS.aloadN X15.here hx rfl (hb hby d8_10) rfl hr_v3 ?_
    show Steps p.tables e below (T15.setTop (mkF m 11 #[.val (.ref a1), .val v2, .val v3, .val v4, .val (.int p5), .val v6, .val (.int p7), .val v8, .val v9, .val v10, .val (.int p11), .val (.long q12), .second, .val (.long q13), .second] [v3, (.ref a1)])) _
    refine st16 _ ?_
    show Steps p.tables e below (T16.setTop (mkF m 14 #[.val (.ref a1), .val v2, .val v3, .val v4, .val (.int p5), .val v6, .val (.int p7), .val v8, .val v9, .val v10, .val (.int p11), .val (.long q12), .second, .val (.long q13), .second] [])) _
    refine XS.aloadN X16.here hx rfl (hb hby d8_14) rfl rfl ?_
    show Steps p.tables e below (T16.setTop (mkF m 15 #[.val (.ref a1), .val v2, .val v3, .val v4, .val (.int p5), .val v6, .val (.int p7), .val v8, .val v9, .val v10, .val (.int p11), .val (.long q12), .second, .val (.long q13), .second] [(.ref a1)])) _
    refine XS.aloadN X16.here hx rfl (hb hby d8_15) rfl hr_v4 ?_
    show Steps p.tables e below (T16.setTop (mkF m 16 #[.val (.ref a1), .val v2, .val v3, .val v4, .val (.int p5), .val v6, .val (.int p7), .val v8, .val v9, .val v10, .val (.int p11), .val (.long q12), .second, .val (.long q13), .second] [v4, (.ref a1)])) _
    refine st19 _ ?_
    show Steps p.tables e below (T19.setTop (mkF m 19 #[.val (.ref a1), .val v2, .val v3, .val v4, .val (.int p5), .val v6, .val (.int p7), .val v8, .val v9, .val v10, .val (.int p11), .val (.long q12), .second, .val (.long q13), .second] [])) _
    refine XS.aloadN X19.here hx rfl (hb hby d8_19) rfl rfl ?_
    show Steps p.tables e below (T19.setTop (mkF m 20 #[.val (.ref a1), .val v2, .val v3, .val v4, .val (.int p5), .val v6, .val (.int p7), .val v8, .val v9, .val v10, .val (.int p11), .val (.long q12), .second, .val (.long q13), .second] [(.ref a1)])) _
    refine XS.iload X19.here hx rfl (hb hby d8_20) rfl ?_
    show Steps p.tables e below (T19.setTop (mkF m 22 #[.val (.ref a1), .val v2, .val v3, .val v4, .val (.int p5), .val v6, .val (.int p7), .val v8, .val v9, .val v10, .val (.int p11), .val (.long q12), .second, .val (.long q13), .second] [(.int p5), (.ref a1)])) _
    refine st22 _ ?_
    show Steps p.tables e below (T22.setTop (mkF m 25 #[.val (.ref a1), .val v2, .val v3, .val v4, .val (.int p5), .val v6, .val (.int p7), .val v8, .val v9, .val v10, .val (.int p11), .val (.long q12), .second, .val (.long q13), .second] [])) _
    refine XS.aloadN X22.here hx rfl (hb hby d8_25) rfl rfl ?_
    show Steps p.tables e below (T22.setTop (mkF m 26 #[.val (.ref a1), .val v2, .val v3, .val v4, .val (.int p5), .val v6, .val (.int p7), .val v8, .val v9, .val v10, .val (.int p11), .val (.long q12), .second, .val (.long q13), .second] [(.ref a1)])) _
    refine XS.aload X22.here hx rfl (hb hby d8_26) rfl hr_v6 ?_
    show Steps p.tables e below (T22.setTop (mkF m 28 #[.val (.ref a1), .val v2, .val v3, .val v4, .val (.int p5), .val v6, .val (.int p7), .val v8, .val v9, .val v10, .val (.int p11), .val (.long q12), .second, .val (.long q13), .second] [v6, (.ref a1)])) _
    refine st25 _ ?_
    show Steps p.tables e below (T25.setTop (mkF m 31 #[.val (.ref a1), .val v2, .val v3, .val v4, .val (.int p5), .val v6, .val (.int p7), .val v8, .val v9, .val v10, .val (.int p11), .val (.long q12), .second, .val (.long q13), .second] [])) _
    refine XS.aloadN X25.here hx rfl (hb hby d8_31) rfl rfl ?_
    show Steps p.tables e below (T25.setTop (mkF m 32 #[.val (.ref a1), .val v2, .val v3, .val v4, .val (.int p5), .val v6, .val (.int p7), .val v8, .val v9, .val v10, .val (.int p11), .val (.long q12), .second, .val (.long q13), .second] [(.ref a1)])) _
    refine XS.iload X25.here hx rfl (hb hby d8_32) rfl ?_
    show Steps p.tables e below (T25.setTop (mkF m 34 #[.val (.ref a1), .val v2, .val v3, .val v4, .val (.int p5), .val v6, .val (.int p7), .val v8, .val v9, .val v10, .val (.int p11), .val (.long q12), .second, .val (.long q13), .second] [(.int p7), (.ref a1)])) _
    refine st28 _ ?_
    show Steps p.tables e below (T28.setTop (mkF m 37 #[.val (.ref a1), .val v2, .val v3, .val v4, .val (.int p5), .val v6, .val (.int p7), .val v8, .val v9, .val v10, .val (.int p11), .val (.long q12), .second, .val (.long q13), .second] [])) _
    refine XS.aloadN X28.here hx rfl (hb hby d8_37) rfl rfl ?_
    show Steps p.tables e below (T28.setTop (mkF m 38 #[.val (.ref a1), .val v2, .val v3, .val v4, .val (.int p5), .val v6, .val (.int p7), .val v8, .val v9, .val v10, .val (.int p11), .val (.long q12), .second, .val (.long q13), .second] [(.ref a1)])) _
    refine XS.aload X28.here hx rfl (hb hby d8_38) rfl hr_v8 ?_
    show Steps p.tables e below (T28.setTop (mkF m 40 #[.val (.ref a1), .val v2, .val v3, .val v4, .val (.int p5), .val v6, .val (.int p7), .val v8, .val v9, .val v10, .val (.int p11), .val (.long q12), .second, .val (.long q13), .second] [v8, (.ref a1)])) _
    refine st31 _ ?_
    show Steps p.tables e below (T31.setTop (mkF m 43 #[.val (.ref a1), .val v2, .val v3, .val v4, .val (.int p5), .val v6, .val (.int p7), .val v8, .val v9, .val v10, .val (.int p11), .val (.long q12), .second, .val (.long q13), .second] [])) _
    refine XS.aloadN X31.here hx rfl (hb hby d8_43) rfl rfl ?_
    show Steps p.tables e below (T31.setTop (mkF m 44 #[.val (.ref a1), .val v2, .val v3, .val v4, .val (.int p5), .val v6, .val (.int p7), .val v8, .val v9, .val v10, .val (.int p11), .val (.long q12), .second, .val (.long q13), .second] [(.ref a1)])) _
    refine XS.aload X31.here hx rfl (hb hby d8_44) rfl hr_v9 ?_
    show Steps p.tables e below (T31.setTop (mkF m 46 #[.val (.ref a1), .val v2, .val v3, .val v4, .val (.int p5), .val v6, .val (.int p7), .val v8, .val v9, .val v10, .val (.int p11), .val (.long q12), .second, .val (.long q13), .second] [v9, (.ref a1)])) _
    refine st34 _ ?_
    show Steps p.tables e below (T34.setTop (mkF m 49 #[.val (.ref a1), .val v2, .val v3, .val v4, .val (.int p5), .val v6, .val (.int p7), .val v8, .val v9, .val v10, .val (.int p11), .val (.long q12), .second, .val (.long q13), .second] [])) _
    refine XS.aloadN X34.here hx rfl (hb hby d8_49) rfl rfl ?_
    show Steps p.tables e below (T34.setTop (mkF m 50 #[.val (.ref a1), .val v2, .val v3, .val v4, .val (.int p5), .val v6, .val (.int p7), .val v8, .val v9, .val v10, .val (.int p11), .val (.long q12), .second, .val (.long q13), .second] [(.ref a1)])) _
    refine XS.aload X34.here hx rfl (hb hby d8_50) rfl hr_v10 ?_
    show Steps p.tables e below (T34.setTop (mkF m 52 #[.val (.ref a1), .val v2, .val v3, .val v4, .val (.int p5), .val v6, .val (.int p7), .val v8, .val v9, .val v10, .val (.int p11), .val (.long q12), .second, .val (.long q13), .second] [v10, (.ref a1)])) _
    refine st37 _ ?_
    show Steps p.tables e below (T37.setTop (mkF m 55 #[.val (.ref a1), .val v2, .val v3, .val v4, .val (.int p5), .val v6, .val (.int p7), .val v8, .val v9, .val v10, .val (.int p11), .val (.long q12), .second, .val (.long q13), .second] [])) _
    refine XS.aloadN X37.here hx rfl (hb hby d8_55) rfl rfl ?_
    show Steps p.tables e below (T37.setTop (mkF m 56 #[.val (.ref a1), .val v2, .val v3, .val v4, .val (.int p5), .val v6, .val (.int p7), .val v8, .val v9, .val v10, .val (.int p11), .val (.long q12), .second, .val (.long q13), .second] [(.ref a1)])) _
    refine XS.iload X37.here hx rfl (hb hby d8_56) rfl ?_
    show Steps p.tables e below (T37.setTop (mkF m 58 #[.val (.ref a1), .val v2, .val v3, .val v4, .val (.int p5), .val v6, .val (.int p7), .val v8, .val v9, .val v10, .val (.int p11), .val (.long q12), .second, .val (.long q13), .second] [(.int p11), (.ref a1)])) _
    refine st40 _ ?_
    show Steps p.tables e below (T40.setTop (mkF m 61 #[.val (.ref a1), .val v2, .val v3, .val v4, .val (.int p5), .val v6, .val (.int p7), .val v8, .val v9, .val v10, .val (.int p11), .val (.long q12), .second, .val (.long q13), .second] [])) _
    refine XS.aloadN X40.here hx rfl (hb hby d8_61) rfl rfl ?_
    show Steps p.tables e below (T40.setTop (mkF m 62 #[.val (.ref a1), .val v2, .val v3, .val v4, .val (.int p5), .val v6, .val (.int p7), .val v8, .val v9, .val v10, .val (.int p11), .val (.long q12), .second, .val (.long q13), .second] [(.ref a1)])) _
    refine XS.lload X40.here hx rfl (hb hby d8_62) rfl ?_
    show Steps p.tables e below (T40.setTop (mkF m 64 #[.val (.ref a1), .val v2, .val v3, .val v4, .val (.int p5), .val v6, .val (.int p7), .val v8, .val v9, .val v10, .val (.int p11), .val (.long q12), .second, .val (.long q13), .second] [(.long q12), (.ref a1)])) _
    refine st43 _ ?_
    show Steps p.tables e below (T43.setTop (mkF m 67 #[.val (.ref a1), .val v2, .val v3, .val v4, .val (.int p5), .val v6, .val (.int p7), .val v8, .val v9, .val v10, .val (.int p11), .val (.long q12), .second, .val (.long q13), .second] [])) _
    refine XS.aloadN X43.here hx rfl (hb hby d8_67) rfl rfl ?_
    show Steps p.tables e below (T43.setTop (mkF m 68 #[.val (.ref a1), .val v2, .val v3, .val v4, .val (.int p5), .val v6, .val (.int p7), .val v8, .val v9, .val v10, .val (.int p11), .val (.long q12), .second, .val (.long q13), .second] [(.ref a1)])) _
    refine XS.lload X43.here hx rfl (hb hby d8_68) rfl ?_
    show Steps p.tables e below (T43.setTop (mkF m 70 #[.val (.ref a1), .val v2, .val v3, .val v4, .val (.int p5), .val v6, .val (.int p7), .val v8, .val v9, .val v10, .val (.int p11), .val (.long q12), .second, .val (.long q13), .second] [(.long q13), (.ref a1)])) _
    refine st46 _ ?_
    show Steps p.tables e below (T46.setTop (mkF m 73 #[.val (.ref a1), .val v2, .val v3, .val v4, .val (.int p5), .val v6, .val (.int p7), .val v8, .val v9, .val v10, .val (.int p11), .val (.long q12), .second, .val (.long q13), .second] [])) _
    exact X46.returnOut hx Bd.returns (hb hby d8_73) hr
  · show Q8 Z a1 v2 v3 v4 p5 v6 p7 v8 v9 v10 p11 q12 q13 u_traceId u_id u_parentId u_awaited u_kind u_shared u_service u_name u_remoteService u_hasTimestamp u_startMicros u_durationMicros h0 n0 _ T46.heap _
    rw [e46]
    exact ⟨rfl, N46, KK46, f49, f50, f51, f52, f53, f54, f55, f56, f57, f58, f59, f60, Fw46⟩
theorem d10_0 : decode prog_33_method_5_code 0 = .ok (.new 8, 3) := by decide +kernel
theorem d10_3 : decode prog_33_method_5_code 3 = .ok (.dup, 1) := by decide +kernel
theorem d10_4 : decode prog_33_method_5_code 4 = .ok (.aload_n 0, 1) := by decide +kernel
theorem d10_5 : decode prog_33_method_5_code 5 = .ok (.getfield 7, 3) := by decide +kernel
theorem d10_8 : decode prog_33_method_5_code 8 = .ok (.aload_n 0, 1) := by decide +kernel
theorem d10_9 : decode prog_33_method_5_code 9 = .ok (.getfield 13, 3) := by decide +kernel
theorem d10_12 : decode prog_33_method_5_code 12 = .ok (.aload_n 0, 1) := by decide +kernel
theorem d10_13 : decode prog_33_method_5_code 13 = .ok (.getfield 16, 3) := by decide +kernel
theorem d10_16 : decode prog_33_method_5_code 16 = .ok (.aload_n 0, 1) := by decide +kernel
theorem d10_17 : decode prog_33_method_5_code 17 = .ok (.getfield 19, 3) := by decide +kernel
theorem d10_20 : decode prog_33_method_5_code 20 = .ok (.aload_n 0, 1) := by decide +kernel
theorem d10_21 : decode prog_33_method_5_code 21 = .ok (.getfield 23, 3) := by decide +kernel
theorem d10_24 : decode prog_33_method_5_code 24 = .ok (.aload_n 0, 1) := by decide +kernel
theorem d10_25 : decode prog_33_method_5_code 25 = .ok (.getfield 27, 3) := by decide +kernel
theorem d10_28 : decode prog_33_method_5_code 28 = .ok (.aload_n 1, 1) := by decide +kernel
theorem d10_29 : decode prog_33_method_5_code 29 = .ok (.aload_n 0, 1) := by decide +kernel
theorem d10_30 : decode prog_33_method_5_code 30 = .ok (.getfield 33, 3) := by decide +kernel
theorem d10_33 : decode prog_33_method_5_code 33 = .ok (.aload_n 0, 1) := by decide +kernel
theorem d10_34 : decode prog_33_method_5_code 34 = .ok (.getfield 36, 3) := by decide +kernel
theorem d10_37 : decode prog_33_method_5_code 37 = .ok (.aload_n 0, 1) := by decide +kernel
theorem d10_38 : decode prog_33_method_5_code 38 = .ok (.getfield 39, 3) := by decide +kernel
theorem d10_41 : decode prog_33_method_5_code 41 = .ok (.aload_n 0, 1) := by decide +kernel
theorem d10_42 : decode prog_33_method_5_code 42 = .ok (.getfield 42, 3) := by decide +kernel
theorem d10_45 : decode prog_33_method_5_code 45 = .ok (.aload_n 0, 1) := by decide +kernel
theorem d10_46 : decode prog_33_method_5_code 46 = .ok (.getfield 46, 3) := by decide +kernel
theorem d10_49 : decode prog_33_method_5_code 49 = .ok (.invokespecial 49, 3) := by decide +kernel
theorem d10_52 : decode prog_33_method_5_code 52 = .ok (.areturn, 1) := by decide +kernel
theorem pn_10 : plainName "com/example/longpole/longpole/Span" = true := by first | (simp [plainName, overriddenIn]; done) | decide +kernel
theorem pd_10_0 : parseMethodDescriptor "(Ljava/lang/String;Ljava/lang/String;Ljava/lang/String;ZLcom/example/longpole/longpole/Span$Kind;ZLjava/lang/String;Ljava/lang/String;Ljava/lang/String;ZJJ)V" = some ⟨[(.object "java/lang/String"), (.object "java/lang/String"), (.object "java/lang/String"), .boolean, (.object "com/example/longpole/longpole/Span$Kind"), .boolean, (.object "java/lang/String"), (.object "java/lang/String"), (.object "java/lang/String"), .boolean, .long, .long], none⟩ := by decide +kernel
theorem ef_10 (m : MethodId) (x0 : Addr) (x1 : Value) (r1 : x1.isRef = true) : entryFrame m #[(.ref x0), x1] 2 = mkF m 0 #[.val (.ref x0), .val x1] [] := by 
  have k1 := own_catR r1
  simp [entryFrame, mkF, argsToLocals, own_cRef, own_cInt, own_cLong, k1]
def Q10 (Z : State) (a1 : Addr) (v2 : Value) (w4 : Value) (w7 : Value) (w10 : Value) (w13 : Int32) (w16 : Value) (w19 : Int32) (w22 : Value) (w25 : Value) (w28 : Int32) (w31 : Int64) (w34 : Int64) (h0 : Heap) (n0 : Nat) (v : Option Value) (h : Heap) (L : List Loc) : Prop := v = some (.ref h0.size) ∧ Fr n0 L ∧ Keep h0 h [] ∧ Exa Z h h0.size "com/example/longpole/longpole/Span" ∧ Fld Z h h0.size "com/example/longpole/longpole/Span" "traceId" "Ljava/lang/String;" w4 ∧ Fld Z h h0.size "com/example/longpole/longpole/Span" "id" "Ljava/lang/String;" w7 ∧ Fld Z h h0.size "com/example/longpole/longpole/Span" "parentId" "Ljava/lang/String;" w10 ∧ Fld Z h h0.size "com/example/longpole/longpole/Span" "awaited" "Z" (.int (nar .boolean w13)) ∧ Fld Z h h0.size "com/example/longpole/longpole/Span" "kind" "Lcom/example/longpole/longpole/Span$Kind;" w16 ∧ Fld Z h h0.size "com/example/longpole/longpole/Span" "shared" "Z" (.int (nar .boolean w19)) ∧ Fld Z h h0.size "com/example/longpole/longpole/Span" "service" "Ljava/lang/String;" v2 ∧ Fld Z h h0.size "com/example/longpole/longpole/Span" "name" "Ljava/lang/String;" w22 ∧ Fld Z h h0.size "com/example/longpole/longpole/Span" "remoteService" "Ljava/lang/String;" w25 ∧ Fld Z h h0.size "com/example/longpole/longpole/Span" "hasTimestamp" "Z" (.int (nar .boolean w28)) ∧ Fld Z h h0.size "com/example/longpole/longpole/Span" "startMicros" "J" (.long w31) ∧ Fld Z h h0.size "com/example/longpole/longpole/Span" "durationMicros" "J" (.long w34)
set_option maxRecDepth 65536 in
set_option maxHeartbeats 40000000 in
theorem rm10 (l : Launch) (Z : State) (a0 : Array Value) (hw : ∀ d ∈ tables_1, d.before a0 Z = true) (ws : List Jvm.Cond) (a1 : Addr) (v2 : Value) (w4 : Value) (w7 : Value) (w10 : Value) (w13 : Int32) (w16 : Value) (w19 : Int32) (w22 : Value) (w25 : Value) (w28 : Int32) (w31 : Int64) (w34 : Int64) (h0 : Heap) (n0 : Nat) (Z0 : n0 ≤ h0.size) (hr_v2 : v2.isRef = true) (F_traceId_a1 : Fld Z h0 a1 "com/example/longpole/longpole/Span" "traceId" "Ljava/lang/String;" w4) (hr_w4 : w4.isRef = true) (F_id_a1 : Fld Z h0 a1 "com/example/longpole/longpole/Span" "id" "Ljava/lang/String;" w7) (hr_w7 : w7.isRef = true) (F_parentId_a1 : Fld Z h0 a1 "com/example/longpole/longpole/Span" "parentId" "Ljava/lang/String;" w10) (hr_w10 : w10.isRef = true) (F_awaited_a1 : Fld Z h0 a1 "com/example/longpole/longpole/Span" "awaited" "Z" (.int w13)) (F_kind_a1 : Fld Z h0 a1 "com/example/longpole/longpole/Span" "kind" "Lcom/example/longpole/longpole/Span$Kind;" w16) (hr_w16 : w16.isRef = true) (F_shared_a1 : Fld Z h0 a1 "com/example/longpole/longpole/Span" "shared" "Z" (.int w19)) (F_name_a1 : Fld Z h0 a1 "com/example/longpole/longpole/Span" "name" "Ljava/lang/String;" w22) (hr_w22 : w22.isRef = true) (F_remoteService_a1 : Fld Z h0 a1 "com/example/longpole/longpole/Span" "remoteService" "Ljava/lang/String;" w25) (hr_w25 : w25.isRef = true) (F_hasTimestamp_a1 : Fld Z h0 a1 "com/example/longpole/longpole/Span" "hasTimestamp" "Z" (.int w28)) (F_startMicros_a1 : Fld Z h0 a1 "com/example/longpole/longpole/Span" "startMicros" "J" (.long w31)) (F_durationMicros_a1 : Fld Z h0 a1 "com/example/longpole/longpole/Span" "durationMicros" "J" (.long w34)) :
    MetFree l (⟨"com/example/longpole/longpole/Span", "withService", "(Ljava/lang/String;)Lcom/example/longpole/longpole/Span;"⟩ : MethodName) (head1 (Jvm.Cond.code (⟨"com/example/longpole/longpole/Span", "withService", "(Ljava/lang/String;)Lcom/example/longpole/longpole/Span;"⟩ : MethodName) prog_33_method_5_code 2 (some (.object "com/example/longpole/longpole/Span")) :: ws) ({ frames := 3, cells := 1, slots := 12, locals := 51 } : Room)) (fun a U => a = #[(.ref a1), v2] ∧ Z.Warmed39 U.vm ∧ U.heap = h0) (fun _ _ _ _ _ => True) (fun _ U o U' => ∃ v L, o = .returned v ∧ Q10 Z a1 v2 w4 w7 w10 w13 w16 w19 w22 w25 w28 w31 w34 h0 n0 v U'.heap L ∧ FrameEnd U o U' L ({ frames := 3, cells := 1, slots := 12, locals := 51 } : Room).cells ({ frames := 3, cells := 1, slots := 12, locals := 51 } : Room).slots) := by
  refine MetFree.of_bodySF (plainFor_of_name pn_10) hisR ?_
  intro p e s m args below meth c s₁ Bd hml0 hP hK
  obtain ⟨rfl, hZ, hh⟩ := hP
  have hx := Bd.exec
  have hby := Bd.bytes
  have hml : c.maxLocals = 2 := hml0
  have hown : s.vm.findClass "com/example/longpole/longpole/Span" = some m.cls := findClass_of_methodNamed Bd.named
  have hnm := (name_of_methodNamed Bd.named Bd.method).1
  have X0 : Stand p l e ({ frames := 3, cells := 1, slots := 12, locals := 51 } : Room) s m #[(.ref a1), v2] below meth c s₁ [] 0 0 := Stand.of_body Bd
  have e0 : s₁.heap = h0 := by rw [← hh, Bd.state]; rfl
  have N0 := Fr.nil n0
  have pre0 : ∀ t, Steps p.tables e below (s₁.setTop (mkF m 0 #[.val (.ref a1), .val v2] [])) t → Steps p.tables e below (s₁.setTop (entryFrame m #[(.ref a1), v2] 2)) t := fun t k => castTop (ef_10 m a1 v2 hr_v2) k
  obtain ⟨T3, h3, X3, e3, E3, A3, D3, -, st3⟩ := newO X0 hx hZ hown (hw _ (List.mem_of_getElem? (i := 77) rfl)) (hw _ (List.mem_of_getElem? (i := 37) rfl)) (hw _ (List.mem_of_getElem? (i := 38) rfl)) e0 (g := (mkF m 0 #[.val (.ref a1), .val v2] [])) rfl (hb hby d10_0) (by decide) (by decide)
  obtain ⟨b3, g3⟩ : ∃ z, z = h0.size := ⟨_, rfl⟩
  rw [← g3] at A3 D3 st3
  have g_b3 : n0 ≤ b3 := Nat.le_trans Z0 (Nat.le_of_eq g3.symm)
  have sz_b3 : h0.size ≤ b3 := Nat.le_trans (Keep.refl h0 []).1 (Nat.le_of_eq g3.symm)
  have Z3 : n0 ≤ h3.size := Nat.le_trans Z0 E3.1
  have KK3 := (Keep.ext (Keep.refl h0 []) E3)
  have F3_traceId : Fld Z h3 b3 "com/example/longpole/longpole/Span" "traceId" "Ljava/lang/String;" .null := D3 (Or.inr (hw _ (List.mem_of_getElem? (i := 49) rfl))) (ty := (.object "java/lang/String")) (by decide)
  have F3_id : Fld Z h3 b3 "com/example/longpole/longpole/Span" "id" "Ljava/lang/String;" .null := D3 (Or.inr (hw _ (List.mem_of_getElem? (i := 51) rfl))) (ty := (.object "java/lang/String")) (by decide)
  have F3_parentId : Fld Z h3 b3 "com/example/longpole/longpole/Span" "parentId" "Ljava/lang/String;" .null := D3 (Or.inr (hw _ (List.mem_of_getElem? (i := 53) rfl))) (ty := (.object "java/lang/String")) (by decide)
  have F3_awaited : Fld Z h3 b3 "com/example/longpole/longpole/Span" "awaited" "Z" (.int (0 : Int32)) := D3 (Or.inr (hw _ (List.mem_of_getElem? (i := 55) rfl))) (ty := .boolean) (by decide)
  have F3_kind : Fld Z h3 b3 "com/example/longpole/longpole/Span" "kind" "Lcom/example/longpole/longpole/Span$Kind;" .null := D3 (Or.inr (hw _ (List.mem_of_getElem? (i := 57) rfl))) (ty := (.object "com/example/longpole/longpole/Span$Kind")) (by decide)
  have F3_shared : Fld Z h3 b3 "com/example/longpole/longpole/Span" "shared" "Z" (.int (0 : Int32)) := D3 (Or.inr (hw _ (List.mem_of_getElem? (i := 59) rfl))) (ty := .boolean) (by decide)
  have F3_service : Fld Z h3 b3 "com/example/longpole/longpole/Span" "service" "Ljava/lang/String;" .null := D3 (Or.inr (hw _ (List.mem_of_getElem? (i := 61) rfl))) (ty := (.object "java/lang/String")) (by decide)
  have F3_name : Fld Z h3 b3 "com/example/longpole/longpole/Span" "name" "Ljava/lang/String;" .null := D3 (Or.inr (hw _ (List.mem_of_getElem? (i := 63) rfl))) (ty := (.object "java/lang/String")) (by decide)
  have F3_remoteService : Fld Z h3 b3 "com/example/longpole/longpole/Span" "remoteService" "Ljava/lang/String;" .null := D3 (Or.inr (hw _ (List.mem_of_getElem? (i := 65) rfl))) (ty := (.object "java/lang/String")) (by decide)
  have F3_hasTimestamp : Fld Z h3 b3 "com/example/longpole/longpole/Span" "hasTimestamp" "Z" (.int (0 : Int32)) := D3 (Or.inr (hw _ (List.mem_of_getElem? (i := 67) rfl))) (ty := .boolean) (by decide)
  have F3_startMicros : Fld Z h3 b3 "com/example/longpole/longpole/Span" "startMicros" "J" (.long (0 : Int64)) := D3 (Or.inr (hw _ (List.mem_of_getElem? (i := 69) rfl))) (ty := .long) (by decide)
  have F3_durationMicros : Fld Z h3 b3 "com/example/longpole/longpole/Span" "durationMicros" "J" (.long (0 : Int64)) := D3 (Or.inr (hw _ (List.mem_of_getElem? (i := 71) rfl))) (ty := .long) (by decide)
  have f5 := (Fld.ext E3 F_traceId_a1)
  obtain ⟨T6, X6, e6, st6⟩ := getF X3 hx hZ hown (host := "") (Or.inl (hw _ (List.mem_of_getElem? (i := 48) rfl))) Via.refl e3 f5 (g := (mkF m 5 #[.val (.ref a1), .val v2] [(.ref a1), (.ref b3), (.ref b3)])) rfl rfl (hb hby d10_5)
  have f8 := (Fld.ext E3 F_id_a1)
  obtain ⟨T9, X9, e9, st9⟩ := getF X6 hx hZ hown (host := "") (Or.inl (hw _ (List.mem_of_getElem? (i := 50) rfl))) Via.refl e6 f8 (g := (mkF m 9 #[.val (.ref a1), .val v2] [(.ref a1), w4, (.ref b3), (.ref b3)])) rfl rfl (hb hby d10_9)
  have f11 := (Fld.ext E3 F_parentId_a1)
  obtain ⟨T12, X12, e12, st12⟩ := getF X9 hx hZ hown (host := "") (Or.inl (hw _ (List.mem_of_getElem? (i := 52) rfl))) Via.refl e9 f11 (g := (mkF m 13 #[.val (.ref a1), .val v2] [(.ref a1), w7, w4, (.ref b3), (.ref b3)])) rfl rfl (hb hby d10_13)
  have f14 := (Fld.ext E3 F_awaited_a1)
  obtain ⟨T15, X15, e15, st15⟩ := getF X12 hx hZ hown (host := "") (Or.inl (hw _ (List.mem_of_getElem? (i := 54) rfl))) Via.refl e12 f14 (g := (mkF m 17 #[.val (.ref a1), .val v2] [(.ref a1), w10, w7, w4, (.ref b3), (.ref b3)])) rfl rfl (hb hby d10_17)
  have f17 := (Fld.ext E3 F_kind_a1)
  obtain ⟨T18, X18, e18, st18⟩ := getF X15 hx hZ hown (host := "") (Or.inl (hw _ (List.mem_of_getElem? (i := 56) rfl))) Via.refl e15 f17 (g := (mkF m 21 #[.val (.ref a1), .val v2] [(.ref a1), (.int w13), w10, w7, w4, (.ref b3), (.ref b3)])) rfl rfl (hb hby d10_21)
  have f20 := (Fld.ext E3 F_shared_a1)
  obtain ⟨T21, X21, e21, st21⟩ := getF X18 hx hZ hown (host := "") (Or.inl (hw _ (List.mem_of_getElem? (i := 58) rfl))) Via.refl e18 f20 (g := (mkF m 25 #[.val (.ref a1), .val v2] [(.ref a1), w16, (.int w13), w10, w7, w4, (.ref b3), (.ref b3)])) rfl rfl (hb hby d10_25)
  have f23 := (Fld.ext E3 F_name_a1)
  obtain ⟨T24, X24, e24, st24⟩ := getF X21 hx hZ hown (host := "") (Or.inl (hw _ (List.mem_of_getElem? (i := 62) rfl))) Via.refl e21 f23 (g := (mkF m 30 #[.val (.ref a1), .val v2] [(.ref a1), v2, (.int w19), w16, (.int w13), w10, w7, w4, (.ref b3), (.ref b3)])) rfl rfl (hb hby d10_30)
  have f26 := (Fld.ext E3 F_remoteService_a1)
  obtain ⟨T27, X27, e27, st27⟩ := getF X24 hx hZ hown (host := "") (Or.inl (hw _ (List.mem_of_getElem? (i := 64) rfl))) Via.refl e24 f26 (g := (mkF m 34 #[.val (.ref a1), .val v2] [(.ref a1), w22, v2, (.int w19), w16, (.int w13), w10, w7, w4, (.ref b3), (.ref b3)])) rfl rfl (hb hby d10_34)
  have f29 := (Fld.ext E3 F_hasTimestamp_a1)
  obtain ⟨T30, X30, e30, st30⟩ := getF X27 hx hZ hown (host := "") (Or.inl (hw _ (List.mem_of_getElem? (i := 66) rfl))) Via.refl e27 f29 (g := (mkF m 38 #[.val (.ref a1), .val v2] [(.ref a1), w25, w22, v2, (.int w19), w16, (.int w13), w10, w7, w4, (.ref b3), (.ref b3)])) rfl rfl (hb hby d10_38)
  have f32 := (Fld.ext E3 F_startMicros_a1)
  obtain ⟨T33, X33, e33, st33⟩ := getF X30 hx hZ hown (host := "") (Or.inl (hw _ (List.mem_of_getElem? (i := 68) rfl))) Via.refl e30 f32 (g := (mkF m 42 #[.val (.ref a1), .val v2] [(.ref a1), (.int w28), w25, w22, v2, (.int w19), w16, (.int w13), w10, w7, w4, (.ref b3), (.ref b3)])) rfl rfl (hb hby d10_42)
  have f35 := (Fld.ext E3 F_durationMicros_a1)
  obtain ⟨T36, X36, e36, st36⟩ := getF X33 hx hZ hown (host := "") (Or.inl (hw _ (List.mem_of_getElem? (i := 70) rfl))) Via.refl e33 f35 (g := (mkF m 46 #[.val (.ref a1), .val v2] [(.ref a1), (.long w31), (.int w28), w25, w22, v2, (.int w19), w16, (.int w13), w10, w7, w4, (.ref b3), (.ref b3)])) rfl rfl (hb hby d10_46)
  obtain ⟨_, _, ⟨T37, L37, k37, n37⟩, -, X37, ⟨Lc37, hQ37, l37, y37, z37⟩, st37⟩ := X36.specialBack hx (y := (⟨"com/example/longpole/longpole/Span", "<init>", "(Ljava/lang/String;Ljava/lang/String;Ljava/lang/String;ZLcom/example/longpole/longpole/Span$Kind;ZLjava/lang/String;Ljava/lang/String;Ljava/lang/String;ZJJ)V"⟩ : MethodName)) rfl hown (mvT hZ (hw _ (List.mem_of_getElem? (i := 78) rfl))) (mvT hZ (hw _ (List.mem_of_getElem? (i := 40) rfl))) (mvT hZ (hw _ (List.mem_of_getElem? (i := 41) rfl))) (by decide) (backOf (W := 1) (rm8 l Z a0 hw [] b3 w4 w7 w10 w13 w16 w19 v2 w22 w25 w28 w31 w34 .null .null .null (.int (0 : Int32)) .null (.int (0 : Int32)) .null .null .null (.int (0 : Int32)) (.long (0 : Int64)) (.long (0 : Int64)) h3 n0 Z3 hr_w4 hr_w7 hr_w10 hr_w16 hr_v2 hr_w22 hr_w25 g_b3 A3 F3_traceId F3_id F3_parentId F3_awaited F3_kind F3_shared F3_service F3_name F3_remoteService F3_hasTimestamp F3_startMicros F3_durationMicros) hZ (hw _ (List.mem_of_getElem? (i := 41) rfl)) (hw _ (List.mem_of_getElem? (i := 38) rfl)) (by decide) (by decide)) (g := (mkF m 49 #[.val (.ref a1), .val v2] [(.long w34), (.long w31), (.int w28), w25, w22, v2, (.int w19), w16, (.int w13), w10, w7, w4, (.ref b3), (.ref b3)])) rfl (by rw [hml]; rfl) (Steps.refl _) (a := b3) (argsL := [w4, w7, w10, (.int w13), w16, (.int w19), v2, w22, w25, (.int w28), (.long w31), (.long w34)]) (rest := [(.ref b3)]) (lenOf pd_10_0 rfl) rfl (by show 2 * 0 + _ ≤ _; exact Nat.le_of_eq rfl) (hb hby d10_49) (fun _ _ => ⟨rfl, e36, (by decide : 1 + 0 ≤ _), (by decide : 12 + 0 ≤ _)⟩)
  dsimp only [Pt.U, Pt.locs, Pt.cells, Pt.slots] at X37 l37 y37 z37 st37 hQ37
  subst l37 y37 z37
  obtain ⟨rfl, N37q, K37, A37, G37_traceId, G37_id, G37_parentId, G37_awaited, G37_kind, G37_shared, G37_service, G37_name, G37_remoteService, G37_hasTimestamp, G37_startMicros, G37_durationMicros⟩ := hQ37
  have N37 := Fr.app N0 N37q
  have Z37 : n0 ≤ T37.heap.size := Nat.le_trans Z3 K37.1
  have KK37 := Keep.trans KK3 K37 (allS (Or.inr sz_b3) all0)
  obtain ⟨fs, hr, hrun, hended, hW, hsame⟩ := X37.leave (v := some (.ref b3)) (fun h => by rw [Bd.returns] at h; cases h)
  refine ⟨_, _, pre0 _ ?_, hrun, hended, _, _, rfl, ?_, ⟨_, rfl⟩, hW, hsame.mono (by decide) (by decide)⟩
  · show Steps p.tables e below (s₁.setTop (mkF m 0 #[.val (.ref a1), .val v2] [])) _
    refine st3 _ ?_
    show Steps p.tables e below (T3.setTop (mkF m 3 #[.val (.ref a1), .val v2] [(.ref b3)])) _
    refine XS.dup X3.here hx rfl (hb hby d10_3) rfl rfl ?_
    show Steps p.tables e below (T3.setTop (mkF m 4 #[.val (.ref a1), .val v2] [(.ref b3), (.ref b3)])) _
    refine XS.aloadN X3.here hx rfl (hb hby d10_4) rfl rfl ?_
    show Steps p.tables e below (T3.setTop (mkF m 5 #[.val (.ref a1), .val v2] [(.ref a1), (.ref b3), (.ref b3)])) _
    refine st6 _ ?_
    show Steps p.tables e below (T6.setTop (mkF m 8 #[.val (.ref a1), .val v2] [w4, (.ref b3), (.ref b3)])) _
    refine XS.aloadN X6.here hx rfl (hb hby d10_8) rfl rfl ?_
    show Steps p.tables e below (T6.setTop (mkF m 9 #[.val (.ref a1), .val v2] [(.ref a1), w4, (.ref b3), (.ref b3)])) _
    refine st9 _ ?_
    show Steps p.tables e below (T9.setTop (mkF m 12 #[.val (.ref a1), .val v2] [w7, w4, (.ref b3), (.ref b3)])) _
    refine XS.aloadN X9.here hx rfl (hb hby d10_12) rfl rfl ?_
    show Steps p.tables e below (T9.setTop (mkF m 13 #[.val (.ref a1), .val v2] [(.ref a1), w7, w4, (.ref b3), (.ref b3)])) _
    refine st12 _ ?_
    show Steps p.tables e below (T12.setTop (mkF m 16 #[.val (.ref a1), .val v2] [w10, w7, w4, (.ref b3), (.ref b3)])) _
    refine XS.aloadN X12.here hx rfl (hb hby d10_16) rfl rfl ?_
    show Steps p.tables e below (T12.setTop (mkF m 17 #[.val (.ref a1), .val v2] [(.ref a1), w10, w7, w4, (.ref b3), (.ref b3)])) _
    refine st15 _ ?_
    show Steps p.tables e below (T15.setTop (mkF m 20 #[.val (.ref a1), .val v2] [(.int w13), w10, w7, w4, (.ref b3), (.ref b3)])) _
    refine XS.aloadN X15.here hx rfl (hb hby d10_20) rfl rfl ?_
    show Steps p.tables e below (T15.setTop (mkF m 21 #[.val (.ref a1), .val v2] [(.ref a1), (.int w13), w10, w7, w4, (.ref b3), (.ref b3)])) _
    refine st18 _ ?_
    show Steps p.tables e below (T18.setTop (mkF m 24 #[.val (.ref a1), .val v2] [w16, (.int w13), w10, w7, w4, (.ref b3), (.ref b3)])) _
    refine XS.aloadN X18.here hx rfl (hb hby d10_24) rfl rfl ?_
    show Steps p.tables e below (T18.setTop (mkF m 25 #[.val (.ref a1), .val v2] [(.ref a1), w16, (.int w13), w10, w7, w4, (.ref b3), (.ref b3)])) _
    refine st21 _ ?_
    show Steps p.tables e below (T21.setTop (mkF m 28 #[.val (.ref a1), .val v2] [(.int w19), w16, (.int w13), w10, w7, w4, (.ref b3), (.ref b3)])) _
    refine XS.aloadN X21.here hx rfl (hb hby d10_28) rfl hr_v2 ?_
    show Steps p.tables e below (T21.setTop (mkF m 29 #[.val (.ref a1), .val v2] [v2, (.int w19), w16, (.int w13), w10, w7, w4, (.ref b3), (.ref b3)])) _
    refine XS.aloadN X21.here hx rfl (hb hby d10_29) rfl rfl ?_
    show Steps p.tables e below (T21.setTop (mkF m 30 #[.val (.ref a1), .val v2] [(.ref a1), v2, (.int w19), w16, (.int w13), w10, w7, w4, (.ref b3), (.ref b3)])) _
    refine st24 _ ?_
    show Steps p.tables e below (T24.setTop (mkF m 33 #[.val (.ref a1), .val v2] [w22, v2, (.int w19), w16, (.int w13), w10, w7, w4, (.ref b3), (.ref b3)])) _
    refine XS.aloadN X24.here hx rfl (hb hby d10_33) rfl rfl ?_
    show Steps p.tables e below (T24.setTop (mkF m 34 #[.val (.ref a1), .val v2] [(.ref a1), w22, v2, (.int w19), w16, (.int w13), w10, w7, w4, (.ref b3), (.ref b3)])) _
    refine st27 _ ?_
    show Steps p.tables e below (T27.setTop (mkF m 37 #[.val (.ref a1), .val v2] [w25, w22, v2, (.int w19), w16, (.int w13), w10, w7, w4, (.ref b3), (.ref b3)])) _
    refine XS.aloadN X27.here hx rfl (hb hby d10_37) rfl rfl ?_
    show Steps p.tables e below (T27.setTop (mkF m 38 #[.val (.ref a1), .val v2] [(.ref a1), w25, w22, v2, (.int w19), w16, (.int w13), w10, w7, w4, (.ref b3), (.ref b3)])) _
    refine st30 _ ?_
    show Steps p.tables e below (T30.setTop (mkF m 41 #[.val (.ref a1), .val v2] [(.int w28), w25, w22, v2, (.int w19), w16, (.int w13), w10, w7, w4, (.ref b3), (.ref b3)])) _
    refine XS.aloadN X30.here hx rfl (hb hby d10_41) rfl rfl ?_
    show Steps p.tables e below (T30.setTop (mkF m 42 #[.val (.ref a1), .val v2] [(.ref a1), (.int w28), w25, w22, v2, (.int w19), w16, (.int w13), w10, w7, w4, (.ref b3), (.ref b3)])) _
    refine st33 _ ?_
    show Steps p.tables e below (T33.setTop (mkF m 45 #[.val (.ref a1), .val v2] [(.long w31), (.int w28), w25, w22, v2, (.int w19), w16, (.int w13), w10, w7, w4, (.ref b3), (.ref b3)])) _
    refine XS.aloadN X33.here hx rfl (hb hby d10_45) rfl rfl ?_
    show Steps p.tables e below (T33.setTop (mkF m 46 #[.val (.ref a1), .val v2] [(.ref a1), (.long w31), (.int w28), w25, w22, v2, (.int w19), w16, (.int w13), w10, w7, w4, (.ref b3), (.ref b3)])) _
    refine st36 _ ?_
    show Steps p.tables e below (T36.setTop (mkF m 49 #[.val (.ref a1), .val v2] [(.long w34), (.long w31), (.int w28), w25, w22, v2, (.int w19), w16, (.int w13), w10, w7, w4, (.ref b3), (.ref b3)])) _
    refine st37.trans ?_
    show Steps p.tables e below (T37.setTop (mkF m 52 #[.val (.ref a1), .val v2] [(.ref b3)])) _
    exact retOut X37 hx Bd.returns rfl (Or.inr (Or.inr (Or.inr (Or.inr ⟨rfl, rfl, rfl⟩)))) (hb hby d10_52) hr
  · show Q10 Z a1 v2 w4 w7 w10 w13 w16 w19 w22 w25 w28 w31 w34 h0 n0 _ T37.heap _
    exact (by subst g3; exact ⟨rfl, N37, KK37, A37, G37_traceId, G37_id, G37_parentId, G37_awaited, G37_kind, G37_shared, G37_service, G37_name, G37_remoteService, G37_hasTimestamp, G37_startMicros, G37_durationMicros⟩)
theorem d11_0 : decode prog_33_method_10_code 0 = .ok (.aload_n 0, 1) := by decide +kernel
theorem d11_1 : decode prog_33_method_10_code 1 = .ok (.getfield 7, 3) := by decide +kernel
theorem d11_4 : decode prog_33_method_10_code 4 = .ok (.areturn, 1) := by decide +kernel
theorem pn_11 : plainName "com/example/longpole/longpole/Span" = true := by first | (simp [plainName, overriddenIn]; done) | decide +kernel
theorem ef_11 (m : MethodId) (x0 : Addr) : entryFrame m #[(.ref x0)] 1 = mkF m 0 #[.val (.ref x0)] [] := by first | (simp [entryFrame, mkF, argsToLocals, Value.category]; done) | rfl
def Q11 (Z : State) (a1 : Addr) (w2 : Value) (h0 : Heap) (n0 : Nat) (v : Option Value) (h : Heap) (L : List Loc) : Prop := v = some w2 ∧ Fr n0 L ∧ h = h0
set_option maxRecDepth 65536 in
set_option maxHeartbeats 40000000 in
theorem rm11 (l : Launch) (Z : State) (a0 : Array Value) (hw : ∀ d ∈ tables_1, d.before a0 Z = true) (ws : List Jvm.Cond) (a1 : Addr) (w2 : Value) (h0 : Heap) (n0 : Nat) (Z0 : n0 ≤ h0.size) (F_traceId_a1 : Fld Z h0 a1 "com/example/longpole/longpole/Span" "traceId" "Ljava/lang/String;" w2) (hr_w2 : w2.isRef = true) :
    MetFree l (⟨"com/example/longpole/longpole/Span", "traceId", "()Ljava/lang/String;"⟩ : MethodName) (head1 (Jvm.Cond.code (⟨"com/example/longpole/longpole/Span", "traceId", "()Ljava/lang/String;"⟩ : MethodName) prog_33_method_10_code 1 (some (.object "java/lang/String")) :: ws) ({ frames := 0, cells := 0, slots := 0, locals := 0 } : Room)) (fun a U => a = #[(.ref a1)] ∧ Z.Warmed39 U.vm ∧ U.heap = h0) (fun _ _ _ _ _ => True) (fun _ U o U' => ∃ v L, o = .returned v ∧ Q11 Z a1 w2 h0 n0 v U'.heap L ∧ FrameEnd U o U' L ({ frames := 0, cells := 0, slots := 0, locals := 0 } : Room).cells ({ frames := 0, cells := 0, slots := 0, locals := 0 } : Room).slots) := by
  refine MetFree.of_bodySF (plainFor_of_name pn_11) hisR ?_
  intro p e s m args below meth c s₁ Bd hml0 hP hK
  obtain ⟨rfl, hZ, hh⟩ := hP
  have hx := Bd.exec
  have hby := Bd.bytes
  have hml : c.maxLocals = 1 := hml0
  have hown : s.vm.findClass "com/example/longpole/longpole/Span" = some m.cls := findClass_of_methodNamed Bd.named
  have hnm := (name_of_methodNamed Bd.named Bd.method).1
  have X0 : Stand p l e ({ frames := 0, cells := 0, slots := 0, locals := 0 } : Room) s m #[(.ref a1)] below meth c s₁ [] 0 0 := Stand.of_body Bd
  have e0 : s₁.heap = h0 := by rw [← hh, Bd.state]; rfl
  have N0 := Fr.nil n0
  have pre0 : ∀ t, Steps p.tables e below (s₁.setTop (mkF m 0 #[.val (.ref a1)] [])) t → Steps p.tables e below (s₁.setTop (entryFrame m #[(.ref a1)] 1)) t := fun t k => castTop (ef_11 m a1) k
  obtain ⟨T3, X3, e3, st3⟩ := getF X0 hx hZ hown (host := "") (Or.inl (hw _ (List.mem_of_getElem? (i := 48) rfl))) Via.refl e0 F_traceId_a1 (g := (mkF m 1 #[.val (.ref a1)] [(.ref a1)])) rfl rfl (hb hby d11_1)
  obtain ⟨fs, hr, hrun, hended, hW, hsame⟩ := X3.leave (v := some w2) (fun h => by rw [Bd.returns] at h; cases h)
  refine ⟨_, _, pre0 _ ?_, hrun, hended, _, _, rfl, ?_, ⟨_, rfl⟩, hW, hsame.mono (by decide) (by decide)⟩
  · show Steps p.tables e below (s₁.setTop (mkF m 0 #[.val (.ref a1)] [])) _
    refine XS.aloadN X0.here hx rfl (hb hby d11_0) rfl rfl ?_
    show Steps p.tables e below (s₁.setTop (mkF m 1 #[.val (.ref a1)] [(.ref a1)])) _
    refine st3 _ ?_
    show Steps p.tables e below (T3.setTop (mkF m 4 #[.val (.ref a1)] [w2])) _
    exact retOut X3 hx Bd.returns (own_narR _ _) (Or.inr (Or.inr (Or.inr (Or.inr ⟨rfl, rfl, hr_w2⟩)))) (hb hby d11_4) hr
  · show Q11 Z a1 w2 h0 n0 _ T3.heap _
    rw [e3]
    exact ⟨rfl, N0, rfl⟩
theorem d12_0 : decode prog_33_method_11_code 0 = .ok (.aload_n 0, 1) := by decide +kernel
theorem d12_1 : decode prog_33_method_11_code 1 = .ok (.getfield 13, 3) := by decide +kernel
theorem d12_4 : decode prog_33_method_11_code 4 = .ok (.areturn, 1) := by decide +kernel
theorem pn_12 : plainName "com/example/longpole/longpole/Span" = true := by first | (simp [plainName, overriddenIn]; done) | decide +kernel
theorem ef_12 (m : MethodId) (x0 : Addr) : entryFrame m #[(.ref x0)] 1 = mkF m 0 #[.val (.ref x0)] [] := by first | (simp [entryFrame, mkF, argsToLocals, Value.category]; done) | rfl
def Q12 (Z : State) (a1 : Addr) (w2 : Value) (h0 : Heap) (n0 : Nat) (v : Option Value) (h : Heap) (L : List Loc) : Prop := v = some w2 ∧ Fr n0 L ∧ h = h0
set_option maxRecDepth 65536 in
set_option maxHeartbeats 40000000 in
theorem rm12 (l : Launch) (Z : State) (a0 : Array Value) (hw : ∀ d ∈ tables_1, d.before a0 Z = true) (ws : List Jvm.Cond) (a1 : Addr) (w2 : Value) (h0 : Heap) (n0 : Nat) (Z0 : n0 ≤ h0.size) (F_id_a1 : Fld Z h0 a1 "com/example/longpole/longpole/Span" "id" "Ljava/lang/String;" w2) (hr_w2 : w2.isRef = true) :
    MetFree l (⟨"com/example/longpole/longpole/Span", "id", "()Ljava/lang/String;"⟩ : MethodName) (head1 (Jvm.Cond.code (⟨"com/example/longpole/longpole/Span", "id", "()Ljava/lang/String;"⟩ : MethodName) prog_33_method_11_code 1 (some (.object "java/lang/String")) :: ws) ({ frames := 0, cells := 0, slots := 0, locals := 0 } : Room)) (fun a U => a = #[(.ref a1)] ∧ Z.Warmed39 U.vm ∧ U.heap = h0) (fun _ _ _ _ _ => True) (fun _ U o U' => ∃ v L, o = .returned v ∧ Q12 Z a1 w2 h0 n0 v U'.heap L ∧ FrameEnd U o U' L ({ frames := 0, cells := 0, slots := 0, locals := 0 } : Room).cells ({ frames := 0, cells := 0, slots := 0, locals := 0 } : Room).slots) := by
  refine MetFree.of_bodySF (plainFor_of_name pn_12) hisR ?_
  intro p e s m args below meth c s₁ Bd hml0 hP hK
  obtain ⟨rfl, hZ, hh⟩ := hP
  have hx := Bd.exec
  have hby := Bd.bytes
  have hml : c.maxLocals = 1 := hml0
  have hown : s.vm.findClass "com/example/longpole/longpole/Span" = some m.cls := findClass_of_methodNamed Bd.named
  have hnm := (name_of_methodNamed Bd.named Bd.method).1
  have X0 : Stand p l e ({ frames := 0, cells := 0, slots := 0, locals := 0 } : Room) s m #[(.ref a1)] below meth c s₁ [] 0 0 := Stand.of_body Bd
  have e0 : s₁.heap = h0 := by rw [← hh, Bd.state]; rfl
  have N0 := Fr.nil n0
  have pre0 : ∀ t, Steps p.tables e below (s₁.setTop (mkF m 0 #[.val (.ref a1)] [])) t → Steps p.tables e below (s₁.setTop (entryFrame m #[(.ref a1)] 1)) t := fun t k => castTop (ef_12 m a1) k
  obtain ⟨T3, X3, e3, st3⟩ := getF X0 hx hZ hown (host := "") (Or.inl (hw _ (List.mem_of_getElem? (i := 50) rfl))) Via.refl e0 F_id_a1 (g := (mkF m 1 #[.val (.ref a1)] [(.ref a1)])) rfl rfl (hb hby d12_1)
  obtain ⟨fs, hr, hrun, hended, hW, hsame⟩ := X3.leave (v := some w2) (fun h => by rw [Bd.returns] at h; cases h)
  refine ⟨_, _, pre0 _ ?_, hrun, hended, _, _, rfl, ?_, ⟨_, rfl⟩, hW, hsame.mono (by decide) (by decide)⟩
  · show Steps p.tables e below (s₁.setTop (mkF m 0 #[.val (.ref a1)] [])) _
    refine XS.aloadN X0.here hx rfl (hb hby d12_0) rfl rfl ?_
    show Steps p.tables e below (s₁.setTop (mkF m 1 #[.val (.ref a1)] [(.ref a1)])) _
    refine st3 _ ?_
    show Steps p.tables e below (T3.setTop (mkF m 4 #[.val (.ref a1)] [w2])) _
    exact retOut X3 hx Bd.returns (own_narR _ _) (Or.inr (Or.inr (Or.inr (Or.inr ⟨rfl, rfl, hr_w2⟩)))) (hb hby d12_4) hr
  · show Q12 Z a1 w2 h0 n0 _ T3.heap _
    rw [e3]
    exact ⟨rfl, N0, rfl⟩
theorem d13_0 : decode prog_33_method_12_code 0 = .ok (.aload_n 0, 1) := by decide +kernel
theorem d13_1 : decode prog_33_method_12_code 1 = .ok (.getfield 16, 3) := by decide +kernel
theorem d13_4 : decode prog_33_method_12_code 4 = .ok (.areturn, 1) := by decide +kernel
theorem pn_13 : plainName "com/example/longpole/longpole/Span" = true := by first | (simp [plainName, overriddenIn]; done) | decide +kernel
theorem ef_13 (m : MethodId) (x0 : Addr) : entryFrame m #[(.ref x0)] 1 = mkF m 0 #[.val (.ref x0)] [] := by first | (simp [entryFrame, mkF, argsToLocals, Value.category]; done) | rfl
def Q13 (Z : State) (a1 : Addr) (w2 : Value) (h0 : Heap) (n0 : Nat) (v : Option Value) (h : Heap) (L : List Loc) : Prop := v = some w2 ∧ Fr n0 L ∧ h = h0
set_option maxRecDepth 65536 in
set_option maxHeartbeats 40000000 in
theorem rm13 (l : Launch) (Z : State) (a0 : Array Value) (hw : ∀ d ∈ tables_1, d.before a0 Z = true) (ws : List Jvm.Cond) (a1 : Addr) (w2 : Value) (h0 : Heap) (n0 : Nat) (Z0 : n0 ≤ h0.size) (F_parentId_a1 : Fld Z h0 a1 "com/example/longpole/longpole/Span" "parentId" "Ljava/lang/String;" w2) (hr_w2 : w2.isRef = true) :
    MetFree l (⟨"com/example/longpole/longpole/Span", "parentId", "()Ljava/lang/String;"⟩ : MethodName) (head1 (Jvm.Cond.code (⟨"com/example/longpole/longpole/Span", "parentId", "()Ljava/lang/String;"⟩ : MethodName) prog_33_method_12_code 1 (some (.object "java/lang/String")) :: ws) ({ frames := 0, cells := 0, slots := 0, locals := 0 } : Room)) (fun a U => a = #[(.ref a1)] ∧ Z.Warmed39 U.vm ∧ U.heap = h0) (fun _ _ _ _ _ => True) (fun _ U o U' => ∃ v L, o = .returned v ∧ Q13 Z a1 w2 h0 n0 v U'.heap L ∧ FrameEnd U o U' L ({ frames := 0, cells := 0, slots := 0, locals := 0 } : Room).cells ({ frames := 0, cells := 0, slots := 0, locals := 0 } : Room).slots) := by
  refine MetFree.of_bodySF (plainFor_of_name pn_13) hisR ?_
  intro p e s m args below meth c s₁ Bd hml0 hP hK
  obtain ⟨rfl, hZ, hh⟩ := hP
  have hx := Bd.exec
  have hby := Bd.bytes
  have hml : c.maxLocals = 1 := hml0
  have hown : s.vm.findClass "com/example/longpole/longpole/Span" = some m.cls := findClass_of_methodNamed Bd.named
  have hnm := (name_of_methodNamed Bd.named Bd.method).1
  have X0 : Stand p l e ({ frames := 0, cells := 0, slots := 0, locals := 0 } : Room) s m #[(.ref a1)] below meth c s₁ [] 0 0 := Stand.of_body Bd
  have e0 : s₁.heap = h0 := by rw [← hh, Bd.state]; rfl
  have N0 := Fr.nil n0
  have pre0 : ∀ t, Steps p.tables e below (s₁.setTop (mkF m 0 #[.val (.ref a1)] [])) t → Steps p.tables e below (s₁.setTop (entryFrame m #[(.ref a1)] 1)) t := fun t k => castTop (ef_13 m a1) k
  obtain ⟨T3, X3, e3, st3⟩ := getF X0 hx hZ hown (host := "") (Or.inl (hw _ (List.mem_of_getElem? (i := 52) rfl))) Via.refl e0 F_parentId_a1 (g := (mkF m 1 #[.val (.ref a1)] [(.ref a1)])) rfl rfl (hb hby d13_1)
  obtain ⟨fs, hr, hrun, hended, hW, hsame⟩ := X3.leave (v := some w2) (fun h => by rw [Bd.returns] at h; cases h)
  refine ⟨_, _, pre0 _ ?_, hrun, hended, _, _, rfl, ?_, ⟨_, rfl⟩, hW, hsame.mono (by decide) (by decide)⟩
  · show Steps p.tables e below (s₁.setTop (mkF m 0 #[.val (.ref a1)] [])) _
    refine XS.aloadN X0.here hx rfl (hb hby d13_0) rfl rfl ?_
    show Steps p.tables e below (s₁.setTop (mkF m 1 #[.val (.ref a1)] [(.ref a1)])) _
    refine st3 _ ?_
    show Steps p.tables e below (T3.setTop (mkF m 4 #[.val (.ref a1)] [w2])) _
    exact retOut X3 hx Bd.returns (own_narR _ _) (Or.inr (Or.inr (Or.inr (Or.inr ⟨rfl, rfl, hr_w2⟩)))) (hb hby d13_4) hr
  · show Q13 Z a1 w2 h0 n0 _ T3.heap _
    rw [e3]
    exact ⟨rfl, N0, rfl⟩
theorem d14_0 : decode prog_33_method_13_code 0 = .ok (.aload_n 0, 1) := by decide +kernel
theorem d14_1 : decode prog_33_method_13_code 1 = .ok (.getfield 19, 3) := by decide +kernel
theorem d14_4 : decode prog_33_method_13_code 4 = .ok (.ireturn, 1) := by decide +kernel
theorem pn_14 : plainName "com/example/longpole/longpole/Span" = true := by first | (simp [plainName, overriddenIn]; done) | decide +kernel
theorem ef_14 (m : MethodId) (x0 : Addr) : entryFrame m #[(.ref x0)] 1 = mkF m 0 #[.val (.ref x0)] [] := by first | (simp [entryFrame, mkF, argsToLocals, Value.category]; done) | rfl
def Q14 (Z : State) (a1 : Addr) (w2 : Int32) (h0 : Heap) (n0 : Nat) (v : Option Value) (h : Heap) (L : List Loc) : Prop := v = some (.int (nar .boolean w2)) ∧ Fr n0 L ∧ h = h0
set_option maxRecDepth 65536 in
set_option maxHeartbeats 40000000 in
theorem rm14 (l : Launch) (Z : State) (a0 : Array Value) (hw : ∀ d ∈ tables_1, d.before a0 Z = true) (ws : List Jvm.Cond) (a1 : Addr) (w2 : Int32) (h0 : Heap) (n0 : Nat) (Z0 : n0 ≤ h0.size) (F_awaited_a1 : Fld Z h0 a1 "com/example/longpole/longpole/Span" "awaited" "Z" (.int w2)) :
    MetFree l (⟨"com/example/longpole/longpole/Span", "awaited", "()Z"⟩ : MethodName) (head1 (Jvm.Cond.code (⟨"com/example/longpole/longpole/Span", "awaited", "()Z"⟩ : MethodName) prog_33_method_13_code 1 (some .boolean) :: ws) ({ frames := 0, cells := 0, slots := 0, locals := 0 } : Room)) (fun a U => a = #[(.ref a1)] ∧ Z.Warmed39 U.vm ∧ U.heap = h0) (fun _ _ _ _ _ => True) (fun _ U o U' => ∃ v L, o = .returned v ∧ Q14 Z a1 w2 h0 n0 v U'.heap L ∧ FrameEnd U o U' L ({ frames := 0, cells := 0, slots := 0, locals := 0 } : Room).cells ({ frames := 0, cells := 0, slots := 0, locals := 0 } : Room).slots) := by
  refine MetFree.of_bodySF (plainFor_of_name pn_14) hisR ?_
  intro p e s m args below meth c s₁ Bd hml0 hP hK
  obtain ⟨rfl, hZ, hh⟩ := hP
  have hx := Bd.exec
  have hby := Bd.bytes
  have hml : c.maxLocals = 1 := hml0
  have hown : s.vm.findClass "com/example/longpole/longpole/Span" = some m.cls := findClass_of_methodNamed Bd.named
  have hnm := (name_of_methodNamed Bd.named Bd.method).1
  have X0 : Stand p l e ({ frames := 0, cells := 0, slots := 0, locals := 0 } : Room) s m #[(.ref a1)] below meth c s₁ [] 0 0 := Stand.of_body Bd
  have e0 : s₁.heap = h0 := by rw [← hh, Bd.state]; rfl
  have N0 := Fr.nil n0
  have pre0 : ∀ t, Steps p.tables e below (s₁.setTop (mkF m 0 #[.val (.ref a1)] [])) t → Steps p.tables e below (s₁.setTop (entryFrame m #[(.ref a1)] 1)) t := fun t k => castTop (ef_14 m a1) k
  obtain ⟨T3, X3, e3, st3⟩ := getF X0 hx hZ hown (host := "") (Or.inl (hw _ (List.mem_of_getElem? (i := 54) rfl))) Via.refl e0 F_awaited_a1 (g := (mkF m 1 #[.val (.ref a1)] [(.ref a1)])) rfl rfl (hb hby d14_1)
  obtain ⟨fs, hr, hrun, hended, hW, hsame⟩ := X3.leave (v := some (.int (nar .boolean w2))) (fun h => by rw [Bd.returns] at h; cases h)
  refine ⟨_, _, pre0 _ ?_, hrun, hended, _, _, rfl, ?_, ⟨_, rfl⟩, hW, hsame.mono (by decide) (by decide)⟩
  · show Steps p.tables e below (s₁.setTop (mkF m 0 #[.val (.ref a1)] [])) _
    refine XS.aloadN X0.here hx rfl (hb hby d14_0) rfl rfl ?_
    show Steps p.tables e below (s₁.setTop (mkF m 1 #[.val (.ref a1)] [(.ref a1)])) _
    refine st3 _ ?_
    show Steps p.tables e below (T3.setTop (mkF m 4 #[.val (.ref a1)] [(.int w2)])) _
    exact retN X3 hx (t := .boolean) Bd.returns (by simp) (hb hby d14_4) hr
  · show Q14 Z a1 w2 h0 n0 _ T3.heap _
    rw [e3]
    exact ⟨rfl, N0, rfl⟩
theorem d15_0 : decode prog_33_method_14_code 0 = .ok (.aload_n 0, 1) := by decide +kernel
theorem d15_1 : decode prog_33_method_14_code 1 = .ok (.getfield 23, 3) := by decide +kernel
theorem d15_4 : decode prog_33_method_14_code 4 = .ok (.areturn, 1) := by decide +kernel
theorem pn_15 : plainName "com/example/longpole/longpole/Span" = true := by first | (simp [plainName, overriddenIn]; done) | decide +kernel
theorem ef_15 (m : MethodId) (x0 : Addr) : entryFrame m #[(.ref x0)] 1 = mkF m 0 #[.val (.ref x0)] [] := by first | (simp [entryFrame, mkF, argsToLocals, Value.category]; done) | rfl
def Q15 (Z : State) (a1 : Addr) (w2 : Value) (h0 : Heap) (n0 : Nat) (v : Option Value) (h : Heap) (L : List Loc) : Prop := v = some w2 ∧ Fr n0 L ∧ h = h0
set_option maxRecDepth 65536 in
set_option maxHeartbeats 40000000 in
theorem rm15 (l : Launch) (Z : State) (a0 : Array Value) (hw : ∀ d ∈ tables_1, d.before a0 Z = true) (ws : List Jvm.Cond) (a1 : Addr) (w2 : Value) (h0 : Heap) (n0 : Nat) (Z0 : n0 ≤ h0.size) (F_kind_a1 : Fld Z h0 a1 "com/example/longpole/longpole/Span" "kind" "Lcom/example/longpole/longpole/Span$Kind;" w2) (hr_w2 : w2.isRef = true) :
    MetFree l (⟨"com/example/longpole/longpole/Span", "kind", "()Lcom/example/longpole/longpole/Span$Kind;"⟩ : MethodName) (head1 (Jvm.Cond.code (⟨"com/example/longpole/longpole/Span", "kind", "()Lcom/example/longpole/longpole/Span$Kind;"⟩ : MethodName) prog_33_method_14_code 1 (some (.object "com/example/longpole/longpole/Span$Kind")) :: ws) ({ frames := 0, cells := 0, slots := 0, locals := 0 } : Room)) (fun a U => a = #[(.ref a1)] ∧ Z.Warmed39 U.vm ∧ U.heap = h0) (fun _ _ _ _ _ => True) (fun _ U o U' => ∃ v L, o = .returned v ∧ Q15 Z a1 w2 h0 n0 v U'.heap L ∧ FrameEnd U o U' L ({ frames := 0, cells := 0, slots := 0, locals := 0 } : Room).cells ({ frames := 0, cells := 0, slots := 0, locals := 0 } : Room).slots) := by
  refine MetFree.of_bodySF (plainFor_of_name pn_15) hisR ?_
  intro p e s m args below meth c s₁ Bd hml0 hP hK
  obtain ⟨rfl, hZ, hh⟩ := hP
  have hx := Bd.exec
  have hby := Bd.bytes
  have hml : c.maxLocals = 1 := hml0
  have hown : s.vm.findClass "com/example/longpole/longpole/Span" = some m.cls := findClass_of_methodNamed Bd.named
  have hnm := (name_of_methodNamed Bd.named Bd.method).1
  have X0 : Stand p l e ({ frames := 0, cells := 0, slots := 0, locals := 0 } : Room) s m #[(.ref a1)] below meth c s₁ [] 0 0 := Stand.of_body Bd
  have e0 : s₁.heap = h0 := by rw [← hh, Bd.state]; rfl
  have N0 := Fr.nil n0
  have pre0 : ∀ t, Steps p.tables e below (s₁.setTop (mkF m 0 #[.val (.ref a1)] [])) t → Steps p.tables e below (s₁.setTop (entryFrame m #[(.ref a1)] 1)) t := fun t k => castTop (ef_15 m a1) k
  obtain ⟨T3, X3, e3, st3⟩ := getF X0 hx hZ hown (host := "") (Or.inl (hw _ (List.mem_of_getElem? (i := 56) rfl))) Via.refl e0 F_kind_a1 (g := (mkF m 1 #[.val (.ref a1)] [(.ref a1)])) rfl rfl (hb hby d15_1)
  obtain ⟨fs, hr, hrun, hended, hW, hsame⟩ := X3.leave (v := some w2) (fun h => by rw [Bd.returns] at h; cases h)
  refine ⟨_, _, pre0 _ ?_, hrun, hended, _, _, rfl, ?_, ⟨_, rfl⟩, hW, hsame.mono (by decide) (by decide)⟩
  · show Steps p.tables e below (s₁.setTop (mkF m 0 #[.val (.ref a1)] [])) _
    refine XS.aloadN X0.here hx rfl (hb hby d15_0) rfl rfl ?_
    show Steps p.tables e below (s₁.setTop (mkF m 1 #[.val (.ref a1)] [(.ref a1)])) _
    refine st3 _ ?_
    show Steps p.tables e below (T3.setTop (mkF m 4 #[.val (.ref a1)] [w2])) _
    exact retOut X3 hx Bd.returns (own_narR _ _) (Or.inr (Or.inr (Or.inr (Or.inr ⟨rfl, rfl, hr_w2⟩)))) (hb hby d15_4) hr
  · show Q15 Z a1 w2 h0 n0 _ T3.heap _
    rw [e3]
    exact ⟨rfl, N0, rfl⟩
theorem d16_0 : decode prog_33_method_15_code 0 = .ok (.aload_n 0, 1) := by decide +kernel
theorem d16_1 : decode prog_33_method_15_code 1 = .ok (.getfield 27, 3) := by decide +kernel
theorem d16_4 : decode prog_33_method_15_code 4 = .ok (.ireturn, 1) := by decide +kernel
theorem pn_16 : plainName "com/example/longpole/longpole/Span" = true := by first | (simp [plainName, overriddenIn]; done) | decide +kernel
theorem ef_16 (m : MethodId) (x0 : Addr) : entryFrame m #[(.ref x0)] 1 = mkF m 0 #[.val (.ref x0)] [] := by first | (simp [entryFrame, mkF, argsToLocals, Value.category]; done) | rfl
def Q16 (Z : State) (a1 : Addr) (w2 : Int32) (h0 : Heap) (n0 : Nat) (v : Option Value) (h : Heap) (L : List Loc) : Prop := v = some (.int (nar .boolean w2)) ∧ Fr n0 L ∧ h = h0
set_option maxRecDepth 65536 in
set_option maxHeartbeats 40000000 in
theorem rm16 (l : Launch) (Z : State) (a0 : Array Value) (hw : ∀ d ∈ tables_1, d.before a0 Z = true) (ws : List Jvm.Cond) (a1 : Addr) (w2 : Int32) (h0 : Heap) (n0 : Nat) (Z0 : n0 ≤ h0.size) (F_shared_a1 : Fld Z h0 a1 "com/example/longpole/longpole/Span" "shared" "Z" (.int w2)) :
    MetFree l (⟨"com/example/longpole/longpole/Span", "shared", "()Z"⟩ : MethodName) (head1 (Jvm.Cond.code (⟨"com/example/longpole/longpole/Span", "shared", "()Z"⟩ : MethodName) prog_33_method_15_code 1 (some .boolean) :: ws) ({ frames := 0, cells := 0, slots := 0, locals := 0 } : Room)) (fun a U => a = #[(.ref a1)] ∧ Z.Warmed39 U.vm ∧ U.heap = h0) (fun _ _ _ _ _ => True) (fun _ U o U' => ∃ v L, o = .returned v ∧ Q16 Z a1 w2 h0 n0 v U'.heap L ∧ FrameEnd U o U' L ({ frames := 0, cells := 0, slots := 0, locals := 0 } : Room).cells ({ frames := 0, cells := 0, slots := 0, locals := 0 } : Room).slots) := by
  refine MetFree.of_bodySF (plainFor_of_name pn_16) hisR ?_
  intro p e s m args below meth c s₁ Bd hml0 hP hK
  obtain ⟨rfl, hZ, hh⟩ := hP
  have hx := Bd.exec
  have hby := Bd.bytes
  have hml : c.maxLocals = 1 := hml0
  have hown : s.vm.findClass "com/example/longpole/longpole/Span" = some m.cls := findClass_of_methodNamed Bd.named
  have hnm := (name_of_methodNamed Bd.named Bd.method).1
  have X0 : Stand p l e ({ frames := 0, cells := 0, slots := 0, locals := 0 } : Room) s m #[(.ref a1)] below meth c s₁ [] 0 0 := Stand.of_body Bd
  have e0 : s₁.heap = h0 := by rw [← hh, Bd.state]; rfl
  have N0 := Fr.nil n0
  have pre0 : ∀ t, Steps p.tables e below (s₁.setTop (mkF m 0 #[.val (.ref a1)] [])) t → Steps p.tables e below (s₁.setTop (entryFrame m #[(.ref a1)] 1)) t := fun t k => castTop (ef_16 m a1) k
  obtain ⟨T3, X3, e3, st3⟩ := getF X0 hx hZ hown (host := "") (Or.inl (hw _ (List.mem_of_getElem? (i := 58) rfl))) Via.refl e0 F_shared_a1 (g := (mkF m 1 #[.val (.ref a1)] [(.ref a1)])) rfl rfl (hb hby d16_1)
  obtain ⟨fs, hr, hrun, hended, hW, hsame⟩ := X3.leave (v := some (.int (nar .boolean w2))) (fun h => by rw [Bd.returns] at h; cases h)
  refine ⟨_, _, pre0 _ ?_, hrun, hended, _, _, rfl, ?_, ⟨_, rfl⟩, hW, hsame.mono (by decide) (by decide)⟩
  · show Steps p.tables e below (s₁.setTop (mkF m 0 #[.val (.ref a1)] [])) _
    refine XS.aloadN X0.here hx rfl (hb hby d16_0) rfl rfl ?_
    show Steps p.tables e below (s₁.setTop (mkF m 1 #[.val (.ref a1)] [(.ref a1)])) _
    refine st3 _ ?_
    show Steps p.tables e below (T3.setTop (mkF m 4 #[.val (.ref a1)] [(.int w2)])) _
    exact retN X3 hx (t := .boolean) Bd.returns (by simp) (hb hby d16_4) hr
  · show Q16 Z a1 w2 h0 n0 _ T3.heap _
    rw [e3]
    exact ⟨rfl, N0, rfl⟩
theorem d17_0 : decode prog_33_method_16_code 0 = .ok (.aload_n 0, 1) := by decide +kernel
theorem d17_1 : decode prog_33_method_16_code 1 = .ok (.getfield 30, 3) := by decide +kernel
theorem d17_4 : decode prog_33_method_16_code 4 = .ok (.areturn, 1) := by decide +kernel
theorem pn_17 : plainName "com/example/longpole/longpole/Span" = true := by first | (simp [plainName, overriddenIn]; done) | decide +kernel
theorem ef_17 (m : MethodId) (x0 : Addr) : entryFrame m #[(.ref x0)] 1 = mkF m 0 #[.val (.ref x0)] [] := by first | (simp [entryFrame, mkF, argsToLocals, Value.category]; done) | rfl
def Q17 (Z : State) (a1 : Addr) (w2 : Value) (h0 : Heap) (n0 : Nat) (v : Option Value) (h : Heap) (L : List Loc) : Prop := v = some w2 ∧ Fr n0 L ∧ h = h0
set_option maxRecDepth 65536 in
set_option maxHeartbeats 40000000 in
theorem rm17 (l : Launch) (Z : State) (a0 : Array Value) (hw : ∀ d ∈ tables_1, d.before a0 Z = true) (ws : List Jvm.Cond) (a1 : Addr) (w2 : Value) (h0 : Heap) (n0 : Nat) (Z0 : n0 ≤ h0.size) (F_service_a1 : Fld Z h0 a1 "com/example/longpole/longpole/Span" "service" "Ljava/lang/String;" w2) (hr_w2 : w2.isRef = true) :
    MetFree l (⟨"com/example/longpole/longpole/Span", "service", "()Ljava/lang/String;"⟩ : MethodName) (head1 (Jvm.Cond.code (⟨"com/example/longpole/longpole/Span", "service", "()Ljava/lang/String;"⟩ : MethodName) prog_33_method_16_code 1 (some (.object "java/lang/String")) :: ws) ({ frames := 0, cells := 0, slots := 0, locals := 0 } : Room)) (fun a U => a = #[(.ref a1)] ∧ Z.Warmed39 U.vm ∧ U.heap = h0) (fun _ _ _ _ _ => True) (fun _ U o U' => ∃ v L, o = .returned v ∧ Q17 Z a1 w2 h0 n0 v U'.heap L ∧ FrameEnd U o U' L ({ frames := 0, cells := 0, slots := 0, locals := 0 } : Room).cells ({ frames := 0, cells := 0, slots := 0, locals := 0 } : Room).slots) := by
  refine MetFree.of_bodySF (plainFor_of_name pn_17) hisR ?_
  intro p e s m args below meth c s₁ Bd hml0 hP hK
  obtain ⟨rfl, hZ, hh⟩ := hP
  have hx := Bd.exec
  have hby := Bd.bytes
  have hml : c.maxLocals = 1 := hml0
  have hown : s.vm.findClass "com/example/longpole/longpole/Span" = some m.cls := findClass_of_methodNamed Bd.named
  have hnm := (name_of_methodNamed Bd.named Bd.method).1
  have X0 : Stand p l e ({ frames := 0, cells := 0, slots := 0, locals := 0 } : Room) s m #[(.ref a1)] below meth c s₁ [] 0 0 := Stand.of_body Bd
  have e0 : s₁.heap = h0 := by rw [← hh, Bd.state]; rfl
  have N0 := Fr.nil n0
  have pre0 : ∀ t, Steps p.tables e below (s₁.setTop (mkF m 0 #[.val (.ref a1)] [])) t → Steps p.tables e below (s₁.setTop (entryFrame m #[(.ref a1)] 1)) t := fun t k => castTop (ef_17 m a1) k
  obtain ⟨T3, X3, e3, st3⟩ := getF X0 hx hZ hown (host := "") (Or.inl (hw _ (List.mem_of_getElem? (i := 60) rfl))) Via.refl e0 F_service_a1 (g := (mkF m 1 #[.val (.ref a1)] [(.ref a1)])) rfl rfl (hb hby d17_1)
  obtain ⟨fs, hr, hrun, hended, hW, hsame⟩ := X3.leave (v := some w2) (fun h => by rw [Bd.returns] at h; cases h)
  refine ⟨_, _, pre0 _ ?_, hrun, hended, _, _, rfl, ?_, ⟨_, rfl⟩, hW, hsame.mono (by decide) (by decide)⟩
  · show Steps p.tables e below (s₁.setTop (mkF m 0 #[.val (.ref a1)] [])) _
    refine XS.aloadN X0.here hx rfl (hb hby d17_0) rfl rfl ?_
    show Steps p.tables e below (s₁.setTop (mkF m 1 #[.val (.ref a1)] [(.ref a1)])) _
    refine st3 _ ?_
    show Steps p.tables e below (T3.setTop (mkF m 4 #[.val (.ref a1)] [w2])) _
    exact retOut X3 hx Bd.returns (own_narR _ _) (Or.inr (Or.inr (Or.inr (Or.inr ⟨rfl, rfl, hr_w2⟩)))) (hb hby d17_4) hr
  · show Q17 Z a1 w2 h0 n0 _ T3.heap _
    rw [e3]
    exact ⟨rfl, N0, rfl⟩
theorem d18_0 : decode prog_33_method_17_code 0 = .ok (.aload_n 0, 1) := by decide +kernel
theorem d18_1 : decode prog_33_method_17_code 1 = .ok (.getfield 33, 3) := by decide +kernel
theorem d18_4 : decode prog_33_method_17_code 4 = .ok (.areturn, 1) := by decide +kernel
theorem pn_18 : plainName "com/example/longpole/longpole/Span" = true := by first | (simp [plainName, overriddenIn]; done) | decide +kernel
theorem ef_18 (m : MethodId) (x0 : Addr) : entryFrame m #[(.ref x0)] 1 = mkF m 0 #[.val (.ref x0)] [] := by first | (simp [entryFrame, mkF, argsToLocals, Value.category]; done) | rfl
def Q18 (Z : State) (a1 : Addr) (w2 : Value) (h0 : Heap) (n0 : Nat) (v : Option Value) (h : Heap) (L : List Loc) : Prop := v = some w2 ∧ Fr n0 L ∧ h = h0
set_option maxRecDepth 65536 in
set_option maxHeartbeats 40000000 in
theorem rm18 (l : Launch) (Z : State) (a0 : Array Value) (hw : ∀ d ∈ tables_1, d.before a0 Z = true) (ws : List Jvm.Cond) (a1 : Addr) (w2 : Value) (h0 : Heap) (n0 : Nat) (Z0 : n0 ≤ h0.size) (F_name_a1 : Fld Z h0 a1 "com/example/longpole/longpole/Span" "name" "Ljava/lang/String;" w2) (hr_w2 : w2.isRef = true) :
    MetFree l (⟨"com/example/longpole/longpole/Span", "name", "()Ljava/lang/String;"⟩ : MethodName) (head1 (Jvm.Cond.code (⟨"com/example/longpole/longpole/Span", "name", "()Ljava/lang/String;"⟩ : MethodName) prog_33_method_17_code 1 (some (.object "java/lang/String")) :: ws) ({ frames := 0, cells := 0, slots := 0, locals := 0 } : Room)) (fun a U => a = #[(.ref a1)] ∧ Z.Warmed39 U.vm ∧ U.heap = h0) (fun _ _ _ _ _ => True) (fun _ U o U' => ∃ v L, o = .returned v ∧ Q18 Z a1 w2 h0 n0 v U'.heap L ∧ FrameEnd U o U' L ({ frames := 0, cells := 0, slots := 0, locals := 0 } : Room).cells ({ frames := 0, cells := 0, slots := 0, locals := 0 } : Room).slots) := by
  refine MetFree.of_bodySF (plainFor_of_name pn_18) hisR ?_
  intro p e s m args below meth c s₁ Bd hml0 hP hK
  obtain ⟨rfl, hZ, hh⟩ := hP
  have hx := Bd.exec
  have hby := Bd.bytes
  have hml : c.maxLocals = 1 := hml0
  have hown : s.vm.findClass "com/example/longpole/longpole/Span" = some m.cls := findClass_of_methodNamed Bd.named
  have hnm := (name_of_methodNamed Bd.named Bd.method).1
  have X0 : Stand p l e ({ frames := 0, cells := 0, slots := 0, locals := 0 } : Room) s m #[(.ref a1)] below meth c s₁ [] 0 0 := Stand.of_body Bd
  have e0 : s₁.heap = h0 := by rw [← hh, Bd.state]; rfl
  have N0 := Fr.nil n0
  have pre0 : ∀ t, Steps p.tables e below (s₁.setTop (mkF m 0 #[.val (.ref a1)] [])) t → Steps p.tables e below (s₁.setTop (entryFrame m #[(.ref a1)] 1)) t := fun t k => castTop (ef_18 m a1) k
  obtain ⟨T3, X3, e3, st3⟩ := getF X0 hx hZ hown (host := "") (Or.inl (hw _ (List.mem_of_getElem? (i := 62) rfl))) Via.refl e0 F_name_a1 (g := (mkF m 1 #[.val (.ref a1)] [(.ref a1)])) rfl rfl (hb hby d18_1)
  obtain ⟨fs, hr, hrun, hended, hW, hsame⟩ := X3.leave (v := some w2) (fun h => by rw [Bd.returns] at h; cases h)
  refine ⟨_, _, pre0 _ ?_, hrun, hended, _, _, rfl, ?_, ⟨_, rfl⟩, hW, hsame.mono (by decide) (by decide)⟩
  · show Steps p.tables e below (s₁.setTop (mkF m 0 #[.val (.ref a1)] [])) _
    refine XS.aloadN X0.here hx rfl (hb hby d18_0) rfl rfl ?_
    show Steps p.tables e below (s₁.setTop (mkF m 1 #[.val (.ref a1)] [(.ref a1)])) _
    refine st3 _ ?_
    show Steps p.tables e below (T3.setTop (mkF m 4 #[.val (.ref a1)] [w2])) _
    exact retOut X3 hx Bd.returns (own_narR _ _) (Or.inr (Or.inr (Or.inr (Or.inr ⟨rfl, rfl, hr_w2⟩)))) (hb hby d18_4) hr
  · show Q18 Z a1 w2 h0 n0 _ T3.heap _
    rw [e3]
    exact ⟨rfl, N0, rfl⟩
theorem d19_0 : decode prog_33_method_18_code 0 = .ok (.aload_n 0, 1) := by decide +kernel
theorem d19_1 : decode prog_33_method_18_code 1 = .ok (.getfield 36, 3) := by decide +kernel
theorem d19_4 : decode prog_33_method_18_code 4 = .ok (.areturn, 1) := by decide +kernel
theorem pn_19 : plainName "com/example/longpole/longpole/Span" = true := by first | (simp [plainName, overriddenIn]; done) | decide +kernel
theorem ef_19 (m : MethodId) (x0 : Addr) : entryFrame m #[(.ref x0)] 1 = mkF m 0 #[.val (.ref x0)] [] := by first | (simp [entryFrame, mkF, argsToLocals, Value.category]; done) | rfl
def Q19 (Z : State) (a1 : Addr) (w2 : Value) (h0 : Heap) (n0 : Nat) (v : Option Value) (h : Heap) (L : List Loc) : Prop := v = some w2 ∧ Fr n0 L ∧ h = h0
set_option maxRecDepth 65536 in
set_option maxHeartbeats 40000000 in
theorem rm19 (l : Launch) (Z : State) (a0 : Array Value) (hw : ∀ d ∈ tables_1, d.before a0 Z = true) (ws : List Jvm.Cond) (a1 : Addr) (w2 : Value) (h0 : Heap) (n0 : Nat) (Z0 : n0 ≤ h0.size) (F_remoteService_a1 : Fld Z h0 a1 "com/example/longpole/longpole/Span" "remoteService" "Ljava/lang/String;" w2) (hr_w2 : w2.isRef = true) :
    MetFree l (⟨"com/example/longpole/longpole/Span", "remoteService", "()Ljava/lang/String;"⟩ : MethodName) (head1 (Jvm.Cond.code (⟨"com/example/longpole/longpole/Span", "remoteService", "()Ljava/lang/String;"⟩ : MethodName) prog_33_method_18_code 1 (some (.object "java/lang/String")) :: ws) ({ frames := 0, cells := 0, slots := 0, locals := 0 } : Room)) (fun a U => a = #[(.ref a1)] ∧ Z.Warmed39 U.vm ∧ U.heap = h0) (fun _ _ _ _ _ => True) (fun _ U o U' => ∃ v L, o = .returned v ∧ Q19 Z a1 w2 h0 n0 v U'.heap L ∧ FrameEnd U o U' L ({ frames := 0, cells := 0, slots := 0, locals := 0 } : Room).cells ({ frames := 0, cells := 0, slots := 0, locals := 0 } : Room).slots) := by
  refine MetFree.of_bodySF (plainFor_of_name pn_19) hisR ?_
  intro p e s m args below meth c s₁ Bd hml0 hP hK
  obtain ⟨rfl, hZ, hh⟩ := hP
  have hx := Bd.exec
  have hby := Bd.bytes
  have hml : c.maxLocals = 1 := hml0
  have hown : s.vm.findClass "com/example/longpole/longpole/Span" = some m.cls := findClass_of_methodNamed Bd.named
  have hnm := (name_of_methodNamed Bd.named Bd.method).1
  have X0 : Stand p l e ({ frames := 0, cells := 0, slots := 0, locals := 0 } : Room) s m #[(.ref a1)] below meth c s₁ [] 0 0 := Stand.of_body Bd
  have e0 : s₁.heap = h0 := by rw [← hh, Bd.state]; rfl
  have N0 := Fr.nil n0
  have pre0 : ∀ t, Steps p.tables e below (s₁.setTop (mkF m 0 #[.val (.ref a1)] [])) t → Steps p.tables e below (s₁.setTop (entryFrame m #[(.ref a1)] 1)) t := fun t k => castTop (ef_19 m a1) k
  obtain ⟨T3, X3, e3, st3⟩ := getF X0 hx hZ hown (host := "") (Or.inl (hw _ (List.mem_of_getElem? (i := 64) rfl))) Via.refl e0 F_remoteService_a1 (g := (mkF m 1 #[.val (.ref a1)] [(.ref a1)])) rfl rfl (hb hby d19_1)
  obtain ⟨fs, hr, hrun, hended, hW, hsame⟩ := X3.leave (v := some w2) (fun h => by rw [Bd.returns] at h; cases h)
  refine ⟨_, _, pre0 _ ?_, hrun, hended, _, _, rfl, ?_, ⟨_, rfl⟩, hW, hsame.mono (by decide) (by decide)⟩
  · show Steps p.tables e below (s₁.setTop (mkF m 0 #[.val (.ref a1)] [])) _
    refine XS.aloadN X0.here hx rfl (hb hby d19_0) rfl rfl ?_
    show Steps p.tables e below (s₁.setTop (mkF m 1 #[.val (.ref a1)] [(.ref a1)])) _
    refine st3 _ ?_
    show Steps p.tables e below (T3.setTop (mkF m 4 #[.val (.ref a1)] [w2])) _
    exact retOut X3 hx Bd.returns (own_narR _ _) (Or.inr (Or.inr (Or.inr (Or.inr ⟨rfl, rfl, hr_w2⟩)))) (hb hby d19_4) hr
  · show Q19 Z a1 w2 h0 n0 _ T3.heap _
    rw [e3]
    exact ⟨rfl, N0, rfl⟩
theorem d20_0 : decode prog_33_method_19_code 0 = .ok (.aload_n 0, 1) := by decide +kernel
theorem d20_1 : decode prog_33_method_19_code 1 = .ok (.getfield 39, 3) := by decide +kernel
theorem d20_4 : decode prog_33_method_19_code 4 = .ok (.ireturn, 1) := by decide +kernel
theorem pn_20 : plainName "com/example/longpole/longpole/Span" = true := by first | (simp [plainName, overriddenIn]; done) | decide +kernel
theorem ef_20 (m : MethodId) (x0 : Addr) : entryFrame m #[(.ref x0)] 1 = mkF m 0 #[.val (.ref x0)] [] := by first | (simp [entryFrame, mkF, argsToLocals, Value.category]; done) | rfl
def Q20 (Z : State) (a1 : Addr) (w2 : Int32) (h0 : Heap) (n0 : Nat) (v : Option Value) (h : Heap) (L : List Loc) : Prop := v = some (.int (nar .boolean w2)) ∧ Fr n0 L ∧ h = h0
set_option maxRecDepth 65536 in
set_option maxHeartbeats 40000000 in
theorem rm20 (l : Launch) (Z : State) (a0 : Array Value) (hw : ∀ d ∈ tables_1, d.before a0 Z = true) (ws : List Jvm.Cond) (a1 : Addr) (w2 : Int32) (h0 : Heap) (n0 : Nat) (Z0 : n0 ≤ h0.size) (F_hasTimestamp_a1 : Fld Z h0 a1 "com/example/longpole/longpole/Span" "hasTimestamp" "Z" (.int w2)) :
    MetFree l (⟨"com/example/longpole/longpole/Span", "hasTimestamp", "()Z"⟩ : MethodName) (head1 (Jvm.Cond.code (⟨"com/example/longpole/longpole/Span", "hasTimestamp", "()Z"⟩ : MethodName) prog_33_method_19_code 1 (some .boolean) :: ws) ({ frames := 0, cells := 0, slots := 0, locals := 0 } : Room)) (fun a U => a = #[(.ref a1)] ∧ Z.Warmed39 U.vm ∧ U.heap = h0) (fun _ _ _ _ _ => True) (fun _ U o U' => ∃ v L, o = .returned v ∧ Q20 Z a1 w2 h0 n0 v U'.heap L ∧ FrameEnd U o U' L ({ frames := 0, cells := 0, slots := 0, locals := 0 } : Room).cells ({ frames := 0, cells := 0, slots := 0, locals := 0 } : Room).slots) := by
  refine MetFree.of_bodySF (plainFor_of_name pn_20) hisR ?_
  intro p e s m args below meth c s₁ Bd hml0 hP hK
  obtain ⟨rfl, hZ, hh⟩ := hP
  have hx := Bd.exec
  have hby := Bd.bytes
  have hml : c.maxLocals = 1 := hml0
  have hown : s.vm.findClass "com/example/longpole/longpole/Span" = some m.cls := findClass_of_methodNamed Bd.named
  have hnm := (name_of_methodNamed Bd.named Bd.method).1
  have X0 : Stand p l e ({ frames := 0, cells := 0, slots := 0, locals := 0 } : Room) s m #[(.ref a1)] below meth c s₁ [] 0 0 := Stand.of_body Bd
  have e0 : s₁.heap = h0 := by rw [← hh, Bd.state]; rfl
  have N0 := Fr.nil n0
  have pre0 : ∀ t, Steps p.tables e below (s₁.setTop (mkF m 0 #[.val (.ref a1)] [])) t → Steps p.tables e below (s₁.setTop (entryFrame m #[(.ref a1)] 1)) t := fun t k => castTop (ef_20 m a1) k
  obtain ⟨T3, X3, e3, st3⟩ := getF X0 hx hZ hown (host := "") (Or.inl (hw _ (List.mem_of_getElem? (i := 66) rfl))) Via.refl e0 F_hasTimestamp_a1 (g := (mkF m 1 #[.val (.ref a1)] [(.ref a1)])) rfl rfl (hb hby d20_1)
  obtain ⟨fs, hr, hrun, hended, hW, hsame⟩ := X3.leave (v := some (.int (nar .boolean w2))) (fun h => by rw [Bd.returns] at h; cases h)
  refine ⟨_, _, pre0 _ ?_, hrun, hended, _, _, rfl, ?_, ⟨_, rfl⟩, hW, hsame.mono (by decide) (by decide)⟩
  · show Steps p.tables e below (s₁.setTop (mkF m 0 #[.val (.ref a1)] [])) _
    refine XS.aloadN X0.here hx rfl (hb hby d20_0) rfl rfl ?_
    show Steps p.tables e below (s₁.setTop (mkF m 1 #[.val (.ref a1)] [(.ref a1)])) _
    refine st3 _ ?_
    show Steps p.tables e below (T3.setTop (mkF m 4 #[.val (.ref a1)] [(.int w2)])) _
    exact retN X3 hx (t := .boolean) Bd.returns (by simp) (hb hby d20_4) hr
  · show Q20 Z a1 w2 h0 n0 _ T3.heap _
    rw [e3]
    exact ⟨rfl, N0, rfl⟩
theorem d21_0 : decode prog_33_method_20_code 0 = .ok (.aload_n 0, 1) := by decide +kernel
theorem d21_1 : decode prog_33_method_20_code 1 = .ok (.getfield 42, 3) := by decide +kernel
theorem d21_4 : decode prog_33_method_20_code 4 = .ok (.lreturn, 1) := by decide +kernel
theorem pn_21 : plainName "com/example/longpole/longpole/Span" = true := by first | (simp [plainName, overriddenIn]; done) | decide +kernel
theorem ef_21 (m : MethodId) (x0 : Addr) : entryFrame m #[(.ref x0)] 1 = mkF m 0 #[.val (.ref x0)] [] := by first | (simp [entryFrame, mkF, argsToLocals, Value.category]; done) | rfl
def Q21 (Z : State) (a1 : Addr) (w2 : Int64) (h0 : Heap) (n0 : Nat) (v : Option Value) (h : Heap) (L : List Loc) : Prop := v = some (.long w2) ∧ Fr n0 L ∧ h = h0
set_option maxRecDepth 65536 in
set_option maxHeartbeats 40000000 in
theorem rm21 (l : Launch) (Z : State) (a0 : Array Value) (hw : ∀ d ∈ tables_1, d.before a0 Z = true) (ws : List Jvm.Cond) (a1 : Addr) (w2 : Int64) (h0 : Heap) (n0 : Nat) (Z0 : n0 ≤ h0.size) (F_startMicros_a1 : Fld Z h0 a1 "com/example/longpole/longpole/Span" "startMicros" "J" (.long w2)) :
    MetFree l (⟨"com/example/longpole/longpole/Span", "startMicros", "()J"⟩ : MethodName) (head1 (Jvm.Cond.code (⟨"com/example/longpole/longpole/Span", "startMicros", "()J"⟩ : MethodName) prog_33_method_20_code 1 (some .long) :: ws) ({ frames := 0, cells := 0, slots := 0, locals := 0 } : Room)) (fun a U => a = #[(.ref a1)] ∧ Z.Warmed39 U.vm ∧ U.heap = h0) (fun _ _ _ _ _ => True) (fun _ U o U' => ∃ v L, o = .returned v ∧ Q21 Z a1 w2 h0 n0 v U'.heap L ∧ FrameEnd U o U' L ({ frames := 0, cells := 0, slots := 0, locals := 0 } : Room).cells ({ frames := 0, cells := 0, slots := 0, locals := 0 } : Room).slots) := by
  refine MetFree.of_bodySF (plainFor_of_name pn_21) hisR ?_
  intro p e s m args below meth c s₁ Bd hml0 hP hK
  obtain ⟨rfl, hZ, hh⟩ := hP
  have hx := Bd.exec
  have hby := Bd.bytes
  have hml : c.maxLocals = 1 := hml0
  have hown : s.vm.findClass "com/example/longpole/longpole/Span" = some m.cls := findClass_of_methodNamed Bd.named
  have hnm := (name_of_methodNamed Bd.named Bd.method).1
  have X0 : Stand p l e ({ frames := 0, cells := 0, slots := 0, locals := 0 } : Room) s m #[(.ref a1)] below meth c s₁ [] 0 0 := Stand.of_body Bd
  have e0 : s₁.heap = h0 := by rw [← hh, Bd.state]; rfl
  have N0 := Fr.nil n0
  have pre0 : ∀ t, Steps p.tables e below (s₁.setTop (mkF m 0 #[.val (.ref a1)] [])) t → Steps p.tables e below (s₁.setTop (entryFrame m #[(.ref a1)] 1)) t := fun t k => castTop (ef_21 m a1) k
  obtain ⟨T3, X3, e3, st3⟩ := getF X0 hx hZ hown (host := "") (Or.inl (hw _ (List.mem_of_getElem? (i := 68) rfl))) Via.refl e0 F_startMicros_a1 (g := (mkF m 1 #[.val (.ref a1)] [(.ref a1)])) rfl rfl (hb hby d21_1)
  obtain ⟨fs, hr, hrun, hended, hW, hsame⟩ := X3.leave (v := some (.long w2)) (fun h => by rw [Bd.returns] at h; cases h)
  refine ⟨_, _, pre0 _ ?_, hrun, hended, _, _, rfl, ?_, ⟨_, rfl⟩, hW, hsame.mono (by decide) (by decide)⟩
  · show Steps p.tables e below (s₁.setTop (mkF m 0 #[.val (.ref a1)] [])) _
    refine XS.aloadN X0.here hx rfl (hb hby d21_0) rfl rfl ?_
    show Steps p.tables e below (s₁.setTop (mkF m 1 #[.val (.ref a1)] [(.ref a1)])) _
    refine st3 _ ?_
    show Steps p.tables e below (T3.setTop (mkF m 4 #[.val (.ref a1)] [(.long w2)])) _
    exact retOut X3 hx Bd.returns rfl (Or.inr (Or.inl ⟨rfl, rfl, _, rfl⟩)) (hb hby d21_4) hr
  · show Q21 Z a1 w2 h0 n0 _ T3.heap _
    rw [e3]
    exact ⟨rfl, N0, rfl⟩
theorem d22_0 : decode prog_33_method_21_code 0 = .ok (.aload_n 0, 1) := by decide +kernel
theorem d22_1 : decode prog_33_method_21_code 1 = .ok (.getfield 46, 3) := by decide +kernel
theorem d22_4 : decode prog_33_method_21_code 4 = .ok (.lreturn, 1) := by decide +kernel
theorem pn_22 : plainName "com/example/longpole/longpole/Span" = true := by first | (simp [plainName, overriddenIn]; done) | decide +kernel
theorem ef_22 (m : MethodId) (x0 : Addr) : entryFrame m #[(.ref x0)] 1 = mkF m 0 #[.val (.ref x0)] [] := by first | (simp [entryFrame, mkF, argsToLocals, Value.category]; done) | rfl
def Q22 (Z : State) (a1 : Addr) (w2 : Int64) (h0 : Heap) (n0 : Nat) (v : Option Value) (h : Heap) (L : List Loc) : Prop := v = some (.long w2) ∧ Fr n0 L ∧ h = h0
set_option maxRecDepth 65536 in
set_option maxHeartbeats 40000000 in
theorem rm22 (l : Launch) (Z : State) (a0 : Array Value) (hw : ∀ d ∈ tables_1, d.before a0 Z = true) (ws : List Jvm.Cond) (a1 : Addr) (w2 : Int64) (h0 : Heap) (n0 : Nat) (Z0 : n0 ≤ h0.size) (F_durationMicros_a1 : Fld Z h0 a1 "com/example/longpole/longpole/Span" "durationMicros" "J" (.long w2)) :
    MetFree l (⟨"com/example/longpole/longpole/Span", "durationMicros", "()J"⟩ : MethodName) (head1 (Jvm.Cond.code (⟨"com/example/longpole/longpole/Span", "durationMicros", "()J"⟩ : MethodName) prog_33_method_21_code 1 (some .long) :: ws) ({ frames := 0, cells := 0, slots := 0, locals := 0 } : Room)) (fun a U => a = #[(.ref a1)] ∧ Z.Warmed39 U.vm ∧ U.heap = h0) (fun _ _ _ _ _ => True) (fun _ U o U' => ∃ v L, o = .returned v ∧ Q22 Z a1 w2 h0 n0 v U'.heap L ∧ FrameEnd U o U' L ({ frames := 0, cells := 0, slots := 0, locals := 0 } : Room).cells ({ frames := 0, cells := 0, slots := 0, locals := 0 } : Room).slots) := by
  refine MetFree.of_bodySF (plainFor_of_name pn_22) hisR ?_
  intro p e s m args below meth c s₁ Bd hml0 hP hK
  obtain ⟨rfl, hZ, hh⟩ := hP
  have hx := Bd.exec
  have hby := Bd.bytes
  have hml : c.maxLocals = 1 := hml0
  have hown : s.vm.findClass "com/example/longpole/longpole/Span" = some m.cls := findClass_of_methodNamed Bd.named
  have hnm := (name_of_methodNamed Bd.named Bd.method).1
  have X0 : Stand p l e ({ frames := 0, cells := 0, slots := 0, locals := 0 } : Room) s m #[(.ref a1)] below meth c s₁ [] 0 0 := Stand.of_body Bd
  have e0 : s₁.heap = h0 := by rw [← hh, Bd.state]; rfl
  have N0 := Fr.nil n0
  have pre0 : ∀ t, Steps p.tables e below (s₁.setTop (mkF m 0 #[.val (.ref a1)] [])) t → Steps p.tables e below (s₁.setTop (entryFrame m #[(.ref a1)] 1)) t := fun t k => castTop (ef_22 m a1) k
  obtain ⟨T3, X3, e3, st3⟩ := getF X0 hx hZ hown (host := "") (Or.inl (hw _ (List.mem_of_getElem? (i := 70) rfl))) Via.refl e0 F_durationMicros_a1 (g := (mkF m 1 #[.val (.ref a1)] [(.ref a1)])) rfl rfl (hb hby d22_1)
  obtain ⟨fs, hr, hrun, hended, hW, hsame⟩ := X3.leave (v := some (.long w2)) (fun h => by rw [Bd.returns] at h; cases h)
  refine ⟨_, _, pre0 _ ?_, hrun, hended, _, _, rfl, ?_, ⟨_, rfl⟩, hW, hsame.mono (by decide) (by decide)⟩
  · show Steps p.tables e below (s₁.setTop (mkF m 0 #[.val (.ref a1)] [])) _
    refine XS.aloadN X0.here hx rfl (hb hby d22_0) rfl rfl ?_
    show Steps p.tables e below (s₁.setTop (mkF m 1 #[.val (.ref a1)] [(.ref a1)])) _
    refine st3 _ ?_
    show Steps p.tables e below (T3.setTop (mkF m 4 #[.val (.ref a1)] [(.long w2)])) _
    exact retOut X3 hx Bd.returns rfl (Or.inr (Or.inl ⟨rfl, rfl, _, rfl⟩)) (hb hby d22_4) hr
  · show Q22 Z a1 w2 h0 n0 _ T3.heap _
    rw [e3]
    exact ⟨rfl, N0, rfl⟩
theorem pn_0 : plainName "com/example/longpole/longpole/SpanWithServicePinLaw" = true := by first | (simp [plainName, overriddenIn]; done) | decide +kernel
theorem pd_0_0 : parseMethodDescriptor "(II)Ljava/lang/String;" = some ⟨[.int, .int], some (.object "java/lang/String")⟩ := by decide +kernel
theorem pd_0_1 : parseMethodDescriptor "(I)Lcom/example/longpole/longpole/Span$Kind;" = some ⟨[.int], some (.object "com/example/longpole/longpole/Span$Kind")⟩ := by decide +kernel
theorem pd_0_2 : parseMethodDescriptor "(Ljava/lang/String;Ljava/lang/String;Ljava/lang/String;ZLcom/example/longpole/longpole/Span$Kind;ZLjava/lang/String;Ljava/lang/String;Ljava/lang/String;ZJJ)V" = some ⟨[(.object "java/lang/String"), (.object "java/lang/String"), (.object "java/lang/String"), .boolean, (.object "com/example/longpole/longpole/Span$Kind"), .boolean, (.object "java/lang/String"), (.object "java/lang/String"), (.object "java/lang/String"), .boolean, .long, .long], none⟩ := by decide +kernel
theorem pd_0_3 : parseMethodDescriptor "(Ljava/lang/String;)Lcom/example/longpole/longpole/Span;" = some ⟨[(.object "java/lang/String")], some (.object "com/example/longpole/longpole/Span")⟩ := by decide +kernel
theorem pd_0_4 : parseMethodDescriptor "()Ljava/lang/String;" = some ⟨[], some (.object "java/lang/String")⟩ := by decide +kernel
theorem pd_0_5 : parseMethodDescriptor "()Z" = some ⟨[], some .boolean⟩ := by decide +kernel
theorem pd_0_6 : parseMethodDescriptor "()Lcom/example/longpole/longpole/Span$Kind;" = some ⟨[], some (.object "com/example/longpole/longpole/Span$Kind")⟩ := by decide +kernel
theorem pd_0_7 : parseMethodDescriptor "()J" = some ⟨[], some .long⟩ := by decide +kernel
theorem ef_0 (m : MethodId) (x0 : Int32) (x1 : Int32) (x2 : Int32) (x3 : Int64) (x4 : Int64) : entryFrame m #[(.int x0), (.int x1), (.int x2), (.long x3), (.long x4)] maxLocals = mkF m 0 #[.val (.int x0), .val (.int x1), .val (.int x2), .val (.long x3), .second, .val (.long x4), .second, .unset, .unset, .unset, .unset, .unset, .unset, .unset, .unset, .unset, .unset, .unset, .unset, .unset] [] := by first | (simp [entryFrame, mkF, argsToLocals, Value.category, maxLocals]; done) | rfl
def Q0 (Z : State) (p1 : Int32) (p2 : Int32) (p3 : Int32) (q4 : Int64) (q5 : Int64) (s_COMPACT_STRINGS : Int32) (s_INTERNAL : Addr) (s_CLIENT : Addr) (s_SERVER : Addr) (s_PRODUCER : Addr) (s_CONSUMER : Addr) (h0 : Heap) (n0 : Nat) (v : Option Value) (h : Heap) (L : List Loc) : Prop := v = some (.int (1 : Int32)) ∧ Fr n0 L
set_option maxRecDepth 65536 in
set_option maxHeartbeats 40000000 in
theorem rm0 (l : Launch) (Z : State) (a0 : Array Value) (hw : ∀ d ∈ tables_1, d.before a0 Z = true) (ws : List Jvm.Cond) (p1 : Int32) (p2 : Int32) (p3 : Int32) (q4 : Int64) (q5 : Int64) (s_COMPACT_STRINGS : Int32) (s_INTERNAL : Addr) (s_CLIENT : Addr) (s_SERVER : Addr) (s_PRODUCER : Addr) (s_CONSUMER : Addr) (h0 : Heap) (n0 : Nat) (Z0 : n0 ≤ h0.size) (S_COMPACT_STRINGS : Sta Z h0 "java/lang/String" "COMPACT_STRINGS" "Z" (.int s_COMPACT_STRINGS)) (hq_1_hq_2_hq3_1 : ¬ (s_COMPACT_STRINGS = (0 : Int32))) (S_INTERNAL : Sta Z h0 "com/example/longpole/longpole/Span$Kind" "INTERNAL" "Lcom/example/longpole/longpole/Span$Kind;" (.ref s_INTERNAL)) (S_CLIENT : Sta Z h0 "com/example/longpole/longpole/Span$Kind" "CLIENT" "Lcom/example/longpole/longpole/Span$Kind;" (.ref s_CLIENT)) (S_SERVER : Sta Z h0 "com/example/longpole/longpole/Span$Kind" "SERVER" "Lcom/example/longpole/longpole/Span$Kind;" (.ref s_SERVER)) (S_PRODUCER : Sta Z h0 "com/example/longpole/longpole/Span$Kind" "PRODUCER" "Lcom/example/longpole/longpole/Span$Kind;" (.ref s_PRODUCER)) (S_CONSUMER : Sta Z h0 "com/example/longpole/longpole/Span$Kind" "CONSUMER" "Lcom/example/longpole/longpole/Span$Kind;" (.ref s_CONSUMER)) :
    MetFree l x (head1 (Jvm.Cond.code x code maxLocals ret :: ws) room_1) (fun a U => a = #[(.int p1), (.int p2), (.int p3), (.long q4), (.long q5)] ∧ Z.Warmed39 U.vm ∧ U.heap = h0) (fun _ _ _ _ _ => True) (fun _ U o U' => ∃ v L, o = .returned v ∧ Q0 Z p1 p2 p3 q4 q5 s_COMPACT_STRINGS s_INTERNAL s_CLIENT s_SERVER s_PRODUCER s_CONSUMER h0 n0 v U'.heap L ∧ FrameEnd U o U' L room_1.cells room_1.slots) := by
  refine MetFree.of_bodySF (plainFor_of_name pn_0) hisR ?_
  intro p e s m args below meth c s₁ Bd hml0 hP hK
  obtain ⟨rfl, hZ, hh⟩ := hP
  have hx := Bd.exec
  have hby := Bd.bytes
  have hml : c.maxLocals = 20 := hml0
  have hown : s.vm.findClass "com/example/longpole/longpole/SpanWithServicePinLaw" = some m.cls := findClass_of_methodNamed Bd.named
  have hnm := (name_of_methodNamed Bd.named Bd.method).1
  have X0 : Stand p l e room_1 s m #[(.int p1), (.int p2), (.int p3), (.long q4), (.long q5)] below meth c s₁ [] 0 0 := Stand.of_body Bd
  have e0 : s₁.heap = h0 := by rw [← hh, Bd.state]; rfl
  have N0 := Fr.nil n0
  have pre0 : ∀ t, Steps p.tables e below (s₁.setTop (mkF m 0 #[.val (.int p1), .val (.int p2), .val (.int p3), .val (.long q4), .second, .val (.long q5), .second, .unset, .unset, .unset, .unset, .unset, .unset, .unset, .unset, .unset, .unset, .unset, .unset, .unset] [])) t → Steps p.tables e below (s₁.setTop (entryFrame m #[(.int p1), (.int p2), (.int p3), (.long q4), (.long q5)] maxLocals)) t := fun t k => castTop (ef_0 m p1 p2 p3 q4 q5) k
  obtain ⟨_, _, ⟨T6, L6, k6, n6⟩, -, X6, ⟨Lc6, hQ6, l6, y6, z6⟩, st6⟩ := Jvm.LawKit.callS X0 hx (y := (⟨"com/example/longpole/longpole/SpanWithServicePinLaw", "str", "(II)Ljava/lang/String;"⟩ : MethodName)) hown (mvT hZ (hw _ (List.mem_of_getElem? (i := 0) rfl))) (mvT hZ (hw _ (List.mem_of_getElem? (i := 1) rfl))) (mvT hZ (hw _ (List.mem_of_getElem? (i := 2) rfl))) (mvT hZ (hw _ (List.mem_of_getElem? (i := 3) rfl))) (by decide) (backOf (W := 0) (rm1 l Z a0 hw [] p1 (0 : Int32) s_COMPACT_STRINGS h0 n0 Z0 S_COMPACT_STRINGS hq_1_hq_2_hq3_1) hZ (hw _ (List.mem_of_getElem? (i := 3) rfl)) (hw _ (List.mem_of_getElem? (i := 2) rfl)) (by decide) (by decide)) (g := (mkF m 2 #[.val (.int p1), .val (.int p2), .val (.int p3), .val (.long q4), .second, .val (.long q5), .second, .unset, .unset, .unset, .unset, .unset, .unset, .unset, .unset, .unset, .unset, .unset, .unset, .unset] [(.int (0 : Int32)), (.int p1)])) rfl (by rw [hml]; rfl) (argsL := [(.int p1), (.int (0 : Int32))]) (rest := []) (lenOf pd_0_0 rfl) rfl (by show 2 * 0 + _ ≤ _; exact Nat.le_of_eq rfl) (hb hby at_2) (fun _ _ => ⟨rfl, e0, (by decide : 0 + 2 ≤ _), (by decide : 0 + 5 ≤ _)⟩)
  dsimp only [Pt.U, Pt.locs, Pt.cells, Pt.slots] at X6 l6 y6 z6 st6 hQ6
  replace y6 : k6 = 2 := y6
  replace z6 : n6 = 5 := z6
  subst y6 z6
  obtain ⟨rfl, N6q, K6, A6⟩ := hQ6
  have N6 : Fr n0 L6 := by rw [l6]; exact Fr.app N0 N6q
  obtain ⟨b6, g6⟩ : ∃ z, z = h0.size := ⟨_, rfl⟩
  rw [← g6] at st6 A6
  have g_b6 : n0 ≤ b6 := Nat.le_trans Z0 (Nat.le_of_eq g6.symm)
  have sz_b6 : h0.size ≤ b6 := Nat.le_trans (Keep.refl h0 []).1 (Nat.le_of_eq g6.symm)
  have Z6 : n0 ≤ T6.heap.size := Nat.le_trans Z0 K6.1
  have KK6 := Keep.trans (Keep.refl h0 []) K6 all0
  have f8 := (own_staKeep S_COMPACT_STRINGS K6 all0)
  obtain ⟨_, _, ⟨T7, L7, k7, n7⟩, -, X7, ⟨Lc7, hQ7, l7, y7, z7⟩, st7⟩ := Jvm.LawKit.callS X6 hx (y := (⟨"com/example/longpole/longpole/SpanWithServicePinLaw", "str", "(II)Ljava/lang/String;"⟩ : MethodName)) hown (mvT hZ (hw _ (List.mem_of_getElem? (i := 0) rfl))) (mvT hZ (hw _ (List.mem_of_getElem? (i := 1) rfl))) (mvT hZ (hw _ (List.mem_of_getElem? (i := 2) rfl))) (mvT hZ (hw _ (List.mem_of_getElem? (i := 3) rfl))) (by decide) (backOf (W := 0) (rm1 l Z a0 hw [] p1 (8 : Int32) s_COMPACT_STRINGS T6.heap n0 Z6 f8 hq_1_hq_2_hq3_1) hZ (hw _ (List.mem_of_getElem? (i := 3) rfl)) (hw _ (List.mem_of_getElem? (i := 2) rfl)) (by decide) (by decide)) (g := (mkF m 10 #[.val (.int p1), .val (.int p2), .val (.int p3), .val (.long q4), .second, .val (.long q5), .second, .val (.ref b6), .unset, .unset, .unset, .unset, .unset, .unset, .unset, .unset, .unset, .unset, .unset, .unset] [(.int (8 : Int32)), (.int p1)])) rfl (by rw [hml]; rfl) (argsL := [(.int p1), (.int (8 : Int32))]) (rest := []) (lenOf pd_0_0 rfl) rfl (by show 2 * 0 + _ ≤ _; exact Nat.le_of_eq rfl) (hb hby at_10) (fun _ _ => ⟨rfl, rfl, (by decide : 2 + 2 ≤ _), (by decide : 5 + 5 ≤ _)⟩)
  dsimp only [Pt.U, Pt.locs, Pt.cells, Pt.slots] at X7 l7 y7 z7 st7 hQ7
  replace y7 : k7 = 4 := y7
  replace z7 : n7 = 10 := z7
  subst y7 z7
  obtain ⟨rfl, N7q, K7, A7⟩ := hQ7
  have N7 : Fr n0 L7 := by rw [l7]; exact Fr.app N6 N7q
  obtain ⟨b7, g7⟩ : ∃ z, z = T6.heap.size := ⟨_, rfl⟩
  rw [← g7] at st7 A7
  have g_b7 : n0 ≤ b7 := Nat.le_trans Z6 (Nat.le_of_eq g7.symm)
  have sz_b7 : h0.size ≤ b7 := Nat.le_trans KK6.1 (Nat.le_of_eq g7.symm)
  have Z7 : n0 ≤ T7.heap.size := Nat.le_trans Z6 K7.1
  have KK7 := Keep.trans KK6 K7 all0
  have pr9 : ∀ t, Steps p.tables e below (T7.setTop (mkF m 15 #[.val (.int p1), .val (.int p2), .val (.int p3), .val (.long q4), .second, .val (.long q5), .second, .val (.ref b6), .val (.ref b7), .unset, .unset, .unset, .unset, .unset, .unset, .unset, .unset, .unset, .unset, .unset] [])) t → Steps p.tables e below (s₁.setTop (entryFrame m #[(.int p1), (.int p2), (.int p3), (.long q4), (.long q5)] maxLocals)) t := by
    intro t k
    refine pre0 t ?_
    show Steps p.tables e below (s₁.setTop (mkF m 0 #[.val (.int p1), .val (.int p2), .val (.int p3), .val (.long q4), .second, .val (.long q5), .second, .unset, .unset, .unset, .unset, .unset, .unset, .unset, .unset, .unset, .unset, .unset, .unset, .unset] [])) _
    refine XS.iloadN X0.here hx rfl (hb hby at_0) rfl ?_
    show Steps p.tables e below (s₁.setTop (mkF m 1 #[.val (.int p1), .val (.int p2), .val (.int p3), .val (.long q4), .second, .val (.long q5), .second, .unset, .unset, .unset, .unset, .unset, .unset, .unset, .unset, .unset, .unset, .unset, .unset, .unset] [(.int p1)])) _
    refine XS.iconst X0.here hx rfl (hb hby at_1) ?_
    show Steps p.tables e below (s₁.setTop (mkF m 2 #[.val (.int p1), .val (.int p2), .val (.int p3), .val (.long q4), .second, .val (.long q5), .second, .unset, .unset, .unset, .unset, .unset, .unset, .unset, .unset, .unset, .unset, .unset, .unset, .unset] [(.int (0 : Int32)), (.int p1)])) _
    refine st6 _ ?_
    show Steps p.tables e below (T6.setTop (mkF m 5 #[.val (.int p1), .val (.int p2), .val (.int p3), .val (.long q4), .second, .val (.long q5), .second, .unset, .unset, .unset, .unset, .unset, .unset, .unset, .unset, .unset, .unset, .unset, .unset, .unset] [(.ref b6)])) _
    refine XS.astore X6.here hx rfl (hb hby at_5) rfl rfl (l' := #[.val (.int p1), .val (.int p2), .val (.int p3), .val (.long q4), .second, .val (.long q5), .second, .val (.ref b6), .unset, .unset, .unset, .unset, .unset, .unset, .unset, .unset, .unset, .unset, .unset, .unset]) rfl ?_
    show Steps p.tables e below (T6.setTop (mkF m 7 #[.val (.int p1), .val (.int p2), .val (.int p3), .val (.long q4), .second, .val (.long q5), .second, .val (.ref b6), .unset, .unset, .unset, .unset, .unset, .unset, .unset, .unset, .unset, .unset, .unset, .unset] [])) _
    refine XS.iloadN X6.here hx rfl (hb hby at_7) rfl ?_
    show Steps p.tables e below (T6.setTop (mkF m 8 #[.val (.int p1), .val (.int p2), .val (.int p3), .val (.long q4), .second, .val (.long q5), .second, .val (.ref b6), .unset, .unset, .unset, .unset, .unset, .unset, .unset, .unset, .unset, .unset, .unset, .unset] [(.int p1)])) _
    refine XS.bipush X6.here hx rfl (hb hby at_8) ?_
    show Steps p.tables e below (T6.setTop (mkF m 10 #[.val (.int p1), .val (.int p2), .val (.int p3), .val (.long q4), .second, .val (.long q5), .second, .val (.ref b6), .unset, .unset, .unset, .unset, .unset, .unset, .unset, .unset, .unset, .unset, .unset, .unset] [(.int (8 : Int32)), (.int p1)])) _
    refine st7 _ ?_
    show Steps p.tables e below (T7.setTop (mkF m 13 #[.val (.int p1), .val (.int p2), .val (.int p3), .val (.long q4), .second, .val (.long q5), .second, .val (.ref b6), .unset, .unset, .unset, .unset, .unset, .unset, .unset, .unset, .unset, .unset, .unset, .unset] [(.ref b7)])) _
    refine XS.astore X7.here hx rfl (hb hby at_13) rfl rfl (l' := #[.val (.int p1), .val (.int p2), .val (.int p3), .val (.long q4), .second, .val (.long q5), .second, .val (.ref b6), .val (.ref b7), .unset, .unset, .unset, .unset, .unset, .unset, .unset, .unset, .unset, .unset, .unset]) rfl ?_
    exact k
  have pr11 : ∀ t, Steps p.tables e below (T7.setTop (mkF m 21 #[.val (.int p1), .val (.int p2), .val (.int p3), .val (.long q4), .second, .val (.long q5), .second, .val (.ref b6), .val (.ref b7), .unset, .unset, .unset, .unset, .unset, .unset, .unset, .unset, .unset, .unset, .unset] [(.int (((p3.toUInt32 >>> ((6 : Int32) &&& 31).toUInt32).toInt32) &&& (1 : Int32)))])) t → Steps p.tables e below (s₁.setTop (entryFrame m #[(.int p1), (.int p2), (.int p3), (.long q4), (.long q5)] maxLocals)) t := by
    intro t k
    refine pr9 t ?_
    show Steps p.tables e below (T7.setTop (mkF m 15 #[.val (.int p1), .val (.int p2), .val (.int p3), .val (.long q4), .second, .val (.long q5), .second, .val (.ref b6), .val (.ref b7), .unset, .unset, .unset, .unset, .unset, .unset, .unset, .unset, .unset, .unset, .unset] [])) _
    refine XS.iloadN X7.here hx rfl (hb hby at_15) rfl ?_
    show Steps p.tables e below (T7.setTop (mkF m 16 #[.val (.int p1), .val (.int p2), .val (.int p3), .val (.long q4), .second, .val (.long q5), .second, .val (.ref b6), .val (.ref b7), .unset, .unset, .unset, .unset, .unset, .unset, .unset, .unset, .unset, .unset, .unset] [(.int p3)])) _
    refine XS.bipush X7.here hx rfl (hb hby at_16) ?_
    show Steps p.tables e below (T7.setTop (mkF m 18 #[.val (.int p1), .val (.int p2), .val (.int p3), .val (.long q4), .second, .val (.long q5), .second, .val (.ref b6), .val (.ref b7), .unset, .unset, .unset, .unset, .unset, .unset, .unset, .unset, .unset, .unset, .unset] [(.int (6 : Int32)), (.int p3)])) _
    refine XS.iushr X7.here hx rfl (hb hby at_18) rfl ?_
    show Steps p.tables e below (T7.setTop (mkF m 19 #[.val (.int p1), .val (.int p2), .val (.int p3), .val (.long q4), .second, .val (.long q5), .second, .val (.ref b6), .val (.ref b7), .unset, .unset, .unset, .unset, .unset, .unset, .unset, .unset, .unset, .unset, .unset] [(.int ((p3.toUInt32 >>> ((6 : Int32) &&& 31).toUInt32).toInt32))])) _
    refine XS.iconst X7.here hx rfl (hb hby at_19) ?_
    show Steps p.tables e below (T7.setTop (mkF m 20 #[.val (.int p1), .val (.int p2), .val (.int p3), .val (.long q4), .second, .val (.long q5), .second, .val (.ref b6), .val (.ref b7), .unset, .unset, .unset, .unset, .unset, .unset, .unset, .unset, .unset, .unset, .unset] [(.int (1 : Int32)), (.int ((p3.toUInt32 >>> ((6 : Int32) &&& 31).toUInt32).toInt32))])) _
    refine XS.iand X7.here hx rfl (hb hby at_20) rfl ?_
    show Steps p.tables e below (T7.setTop (mkF m 21 #[.val (.int p1), .val (.int p2), .val (.int p3), .val (.long q4), .second, .val (.long q5), .second, .val (.ref b6), .val (.ref b7), .unset, .unset, .unset, .unset, .unset, .unset, .unset, .unset, .unset, .unset, .unset] [(.int (((p3.toUInt32 >>> ((6 : Int32) &&& 31).toUInt32).toInt32) &&& (1 : Int32)))])) _
    exact k
  by_cases hc10 : (((p3.toUInt32 >>> ((6 : Int32) &&& 31).toUInt32).toInt32) &&& (1 : Int32)) = (0 : Int32)
  · have f13 := (own_staKeep f8 K7 all0)
    obtain ⟨_, _, ⟨T12, L12, k12, n12⟩, -, X12, ⟨Lc12, hQ12, l12, y12, z12⟩, st12⟩ := Jvm.LawKit.callS X7 hx (y := (⟨"com/example/longpole/longpole/SpanWithServicePinLaw", "str", "(II)Ljava/lang/String;"⟩ : MethodName)) hown (mvT hZ (hw _ (List.mem_of_getElem? (i := 0) rfl))) (mvT hZ (hw _ (List.mem_of_getElem? (i := 1) rfl))) (mvT hZ (hw _ (List.mem_of_getElem? (i := 2) rfl))) (mvT hZ (hw _ (List.mem_of_getElem? (i := 3) rfl))) (by decide) (backOf (W := 0) (rm1 l Z a0 hw [] p1 (16 : Int32) s_COMPACT_STRINGS T7.heap n0 Z7 f13 hq_1_hq_2_hq3_1) hZ (hw _ (List.mem_of_getElem? (i := 3) rfl)) (hw _ (List.mem_of_getElem? (i := 2) rfl)) (by decide) (by decide)) (g := (mkF m 31 #[.val (.int p1), .val (.int p2), .val (.int p3), .val (.long q4), .second, .val (.long q5), .second, .val (.ref b6), .val (.ref b7), .unset, .unset, .unset, .unset, .unset, .unset, .unset, .unset, .unset, .unset, .unset] [(.int (16 : Int32)), (.int p1)])) rfl (by rw [hml]; rfl) (argsL := [(.int p1), (.int (16 : Int32))]) (rest := []) (lenOf pd_0_0 rfl) rfl (by show 2 * 0 + _ ≤ _; exact Nat.le_of_eq rfl) (hb hby at_31) (fun _ _ => ⟨rfl, rfl, (by decide : 4 + 2 ≤ _), (by decide : 10 + 5 ≤ _)⟩)
    dsimp only [Pt.U, Pt.locs, Pt.cells, Pt.slots] at X12 l12 y12 z12 st12 hQ12
    replace y12 : k12 = 6 := y12
    replace z12 : n12 = 15 := z12
    subst y12 z12
    have f14 := (Exa.keep A6 K7)
    obtain ⟨rfl, N12q, K12, A12⟩ := hQ12
    have N12 : Fr n0 L12 := by rw [l12]; exact Fr.app N7 N12q
    obtain ⟨b12, g12⟩ : ∃ z, z = T7.heap.size := ⟨_, rfl⟩
    rw [← g12] at st12 A12
    have g_b12 : n0 ≤ b12 := Nat.le_trans Z7 (Nat.le_of_eq g12.symm)
    have sz_b12 : h0.size ≤ b12 := Nat.le_trans KK7.1 (Nat.le_of_eq g12.symm)
    have Z12 : n0 ≤ T12.heap.size := Nat.le_trans Z7 K12.1
    have KK12 := Keep.trans KK7 K12 all0
    have f16 := (own_staKeep f13 K12 all0)
    obtain ⟨_, _, ⟨T15, L15, k15, n15⟩, -, X15, ⟨Lc15, hQ15, l15, y15, z15⟩, st15⟩ := Jvm.LawKit.callS X12 hx (y := (⟨"com/example/longpole/longpole/SpanWithServicePinLaw", "str", "(II)Ljava/lang/String;"⟩ : MethodName)) hown (mvT hZ (hw _ (List.mem_of_getElem? (i := 0) rfl))) (mvT hZ (hw _ (List.mem_of_getElem? (i := 1) rfl))) (mvT hZ (hw _ (List.mem_of_getElem? (i := 2) rfl))) (mvT hZ (hw _ (List.mem_of_getElem? (i := 3) rfl))) (by decide) (backOf (W := 0) (rm1 l Z a0 hw [] p1 (24 : Int32) s_COMPACT_STRINGS T12.heap n0 Z12 f16 hq_1_hq_2_hq3_1) hZ (hw _ (List.mem_of_getElem? (i := 3) rfl)) (hw _ (List.mem_of_getElem? (i := 2) rfl)) (by decide) (by decide)) (g := (mkF m 39 #[.val (.int p1), .val (.int p2), .val (.int p3), .val (.long q4), .second, .val (.long q5), .second, .val (.ref b6), .val (.ref b7), .val (.ref b12), .unset, .unset, .unset, .unset, .unset, .unset, .unset, .unset, .unset, .unset] [(.int (24 : Int32)), (.int p1)])) rfl (by rw [hml]; rfl) (argsL := [(.int p1), (.int (24 : Int32))]) (rest := []) (lenOf pd_0_0 rfl) rfl (by show 2 * 0 + _ ≤ _; exact Nat.le_of_eq rfl) (hb hby at_39) (fun _ _ => ⟨rfl, rfl, (by decide : 6 + 2 ≤ _), (by decide : 15 + 5 ≤ _)⟩)
    dsimp only [Pt.U, Pt.locs, Pt.cells, Pt.slots] at X15 l15 y15 z15 st15 hQ15
    replace y15 : k15 = 8 := y15
    replace z15 : n15 = 20 := z15
    subst y15 z15
    have f17 := (Exa.keep f14 K12)
    have f18 := (Exa.keep A7 K12)
    obtain ⟨rfl, N15q, K15, A15⟩ := hQ15
    have N15 : Fr n0 L15 := by rw [l15]; exact Fr.app N12 N15q
    obtain ⟨b15, g15⟩ : ∃ z, z = T12.heap.size := ⟨_, rfl⟩
    rw [← g15] at st15 A15
    have g_b15 : n0 ≤ b15 := Nat.le_trans Z12 (Nat.le_of_eq g15.symm)
    have sz_b15 : h0.size ≤ b15 := Nat.le_trans KK12.1 (Nat.le_of_eq g15.symm)
    have Z15 : n0 ≤ T15.heap.size := Nat.le_trans Z12 K15.1
    have KK15 := Keep.trans KK12 K15 all0
    have pr19 : ∀ t, Steps p.tables e below (T15.setTop (mkF m 42 #[.val (.int p1), .val (.int p2), .val (.int p3), .val (.long q4), .second, .val (.long q5), .second, .val (.ref b6), .val (.ref b7), .val (.ref b12), .unset, .unset, .unset, .unset, .unset, .unset, .unset, .unset, .unset, .unset] [(.ref b15)])) t → Steps p.tables e below (s₁.setTop (entryFrame m #[(.int p1), (.int p2), (.int p3), (.long q4), (.long q5)] maxLocals)) t := by
      intro t k
      refine pr11 t ?_
      show Steps p.tables e below (T7.setTop (mkF m 21 #[.val (.int p1), .val (.int p2), .val (.int p3), .val (.long q4), .second, .val (.long q5), .second, .val (.ref b6), .val (.ref b7), .unset, .unset, .unset, .unset, .unset, .unset, .unset, .unset, .unset, .unset, .unset] [(.int (((p3.toUInt32 >>> ((6 : Int32) &&& 31).toUInt32).toInt32) &&& (1 : Int32)))])) _
      refine XS.ifYes X7.here hx rfl (pc0 := 21) (pc' := 28) rfl (hb hby at_21) rfl ((if0 _ _).trans (teq hc10).1) (by decide) (by decide) ?_
      show Steps p.tables e below (T7.setTop (mkF m 28 #[.val (.int p1), .val (.int p2), .val (.int p3), .val (.long q4), .second, .val (.long q5), .second, .val (.ref b6), .val (.ref b7), .unset, .unset, .unset, .unset, .unset, .unset, .unset, .unset, .unset, .unset, .unset] [])) _
      refine XS.iloadN X7.here hx rfl (hb hby at_28) rfl ?_
      show Steps p.tables e below (T7.setTop (mkF m 29 #[.val (.int p1), .val (.int p2), .val (.int p3), .val (.long q4), .second, .val (.long q5), .second, .val (.ref b6), .val (.ref b7), .unset, .unset, .unset, .unset, .unset, .unset, .unset, .unset, .unset, .unset, .unset] [(.int p1)])) _
      refine XS.bipush X7.here hx rfl (hb hby at_29) ?_
      show Steps p.tables e below (T7.setTop (mkF m 31 #[.val (.int p1), .val (.int p2), .val (.int p3), .val (.long q4), .second, .val (.long q5), .second, .val (.ref b6), .val (.ref b7), .unset, .unset, .unset, .unset, .unset, .unset, .unset, .unset, .unset, .unset, .unset] [(.int (16 : Int32)), (.int p1)])) _
      refine st12 _ ?_
      show Steps p.tables e below (T12.setTop (mkF m 34 #[.val (.int p1), .val (.int p2), .val (.int p3), .val (.long q4), .second, .val (.long q5), .second, .val (.ref b6), .val (.ref b7), .unset, .unset, .unset, .unset, .unset, .unset, .unset, .unset, .unset, .unset, .unset] [(.ref b12)])) _
      refine XS.astore X12.here hx rfl (hb hby at_34) rfl rfl (l' := #[.val (.int p1), .val (.int p2), .val (.int p3), .val (.long q4), .second, .val (.long q5), .second, .val (.ref b6), .val (.ref b7), .val (.ref b12), .unset, .unset, .unset, .unset, .unset, .unset, .unset, .unset, .unset, .unset]) rfl ?_
      show Steps p.tables e below (T12.setTop (mkF m 36 #[.val (.int p1), .val (.int p2), .val (.int p3), .val (.long q4), .second, .val (.long q5), .second, .val (.ref b6), .val (.ref b7), .val (.ref b12), .unset, .unset, .unset, .unset, .unset, .unset, .unset, .unset, .unset, .unset] [])) _
      refine XS.iloadN X12.here hx rfl (hb hby at_36) rfl ?_
      show Steps p.tables e below (T12.setTop (mkF m 37 #[.val (.int p1), .val (.int p2), .val (.int p3), .val (.long q4), .second, .val (.long q5), .second, .val (.ref b6), .val (.ref b7), .val (.ref b12), .unset, .unset, .unset, .unset, .unset, .unset, .unset, .unset, .unset, .unset] [(.int p1)])) _
      refine XS.bipush X12.here hx rfl (hb hby at_37) ?_
      show Steps p.tables e below (T12.setTop (mkF m 39 #[.val (.int p1), .val (.int p2), .val (.int p3), .val (.long q4), .second, .val (.long q5), .second, .val (.ref b6), .val (.ref b7), .val (.ref b12), .unset, .unset, .unset, .unset, .unset, .unset, .unset, .unset, .unset, .unset] [(.int (24 : Int32)), (.int p1)])) _
      refine st15 _ ?_
      exact k
    have f21 := (own_staKeep f16 K15 all0)
    obtain ⟨_, _, ⟨T20, L20, k20, n20⟩, -, X20, ⟨Lc20, hQ20, l20, y20, z20⟩, st20⟩ := Jvm.LawKit.callS X15 hx (y := (⟨"com/example/longpole/longpole/SpanWithServicePinLaw", "str", "(II)Ljava/lang/String;"⟩ : MethodName)) hown (mvT hZ (hw _ (List.mem_of_getElem? (i := 0) rfl))) (mvT hZ (hw _ (List.mem_of_getElem? (i := 1) rfl))) (mvT hZ (hw _ (List.mem_of_getElem? (i := 2) rfl))) (mvT hZ (hw _ (List.mem_of_getElem? (i := 3) rfl))) (by decide) (backOf (W := 0) (rm1 l Z a0 hw [] p2 (0 : Int32) s_COMPACT_STRINGS T15.heap n0 Z15 f21 hq_1_hq_2_hq3_1) hZ (hw _ (List.mem_of_getElem? (i := 3) rfl)) (hw _ (List.mem_of_getElem? (i := 2) rfl)) (by decide) (by decide)) (g := (mkF m 46 #[.val (.int p1), .val (.int p2), .val (.int p3), .val (.long q4), .second, .val (.long q5), .second, .val (.ref b6), .val (.ref b7), .val (.ref b12), .val (.ref b15), .unset, .unset, .unset, .unset, .unset, .unset, .unset, .unset, .unset] [(.int (0 : Int32)), (.int p2)])) rfl (by rw [hml]; rfl) (argsL := [(.int p2), (.int (0 : Int32))]) (rest := []) (lenOf pd_0_0 rfl) rfl (by show 2 * 0 + _ ≤ _; exact Nat.le_of_eq rfl) (hb hby at_46) (fun _ _ => ⟨rfl, rfl, (by decide : 8 + 2 ≤ _), (by decide : 20 + 5 ≤ _)⟩)
    dsimp only [Pt.U, Pt.locs, Pt.cells, Pt.slots] at X20 l20 y20 z20 st20 hQ20
    replace y20 : k20 = 10 := y20
    replace z20 : n20 = 25 := z20
    subst y20 z20
    have f22 := (Exa.keep f17 K15)
    have f23 := (Exa.keep f18 K15)
    have f24 := (Exa.keep A12 K15)
    obtain ⟨rfl, N20q, K20, A20⟩ := hQ20
    have N20 : Fr n0 L20 := by rw [l20]; exact Fr.app N15 N20q
    obtain ⟨b20, g20⟩ : ∃ z, z = T15.heap.size := ⟨_, rfl⟩
    rw [← g20] at st20 A20
    have g_b20 : n0 ≤ b20 := Nat.le_trans Z15 (Nat.le_of_eq g20.symm)
    have sz_b20 : h0.size ≤ b20 := Nat.le_trans KK15.1 (Nat.le_of_eq g20.symm)
    have Z20 : n0 ≤ T20.heap.size := Nat.le_trans Z15 K20.1
    have KK20 := Keep.trans KK15 K20 all0
    have f26 := (own_staKeep f21 K20 all0)
    obtain ⟨_, _, ⟨T25, L25, k25, n25⟩, -, X25, ⟨Lc25, hQ25, l25, y25, z25⟩, st25⟩ := Jvm.LawKit.callS X20 hx (y := (⟨"com/example/longpole/longpole/SpanWithServicePinLaw", "str", "(II)Ljava/lang/String;"⟩ : MethodName)) hown (mvT hZ (hw _ (List.mem_of_getElem? (i := 0) rfl))) (mvT hZ (hw _ (List.mem_of_getElem? (i := 1) rfl))) (mvT hZ (hw _ (List.mem_of_getElem? (i := 2) rfl))) (mvT hZ (hw _ (List.mem_of_getElem? (i := 3) rfl))) (by decide) (backOf (W := 0) (rm1 l Z a0 hw [] p2 (8 : Int32) s_COMPACT_STRINGS T20.heap n0 Z20 f26 hq_1_hq_2_hq3_1) hZ (hw _ (List.mem_of_getElem? (i := 3) rfl)) (hw _ (List.mem_of_getElem? (i := 2) rfl)) (by decide) (by decide)) (g := (mkF m 54 #[.val (.int p1), .val (.int p2), .val (.int p3), .val (.long q4), .second, .val (.long q5), .second, .val (.ref b6), .val (.ref b7), .val (.ref b12), .val (.ref b15), .val (.ref b20), .unset, .unset, .unset, .unset, .unset, .unset, .unset, .unset] [(.int (8 : Int32)), (.int p2)])) rfl (by rw [hml]; rfl) (argsL := [(.int p2), (.int (8 : Int32))]) (rest := []) (lenOf pd_0_0 rfl) rfl (by show 2 * 0 + _ ≤ _; exact Nat.le_of_eq rfl) (hb hby at_54) (fun _ _ => ⟨rfl, rfl, (by decide : 10 + 2 ≤ _), (by decide : 25 + 5 ≤ _)⟩)
    dsimp only [Pt.U, Pt.locs, Pt.cells, Pt.slots] at X25 l25 y25 z25 st25 hQ25
    replace y25 : k25 = 12 := y25
    replace z25 : n25 = 30 := z25
    subst y25 z25
    have f27 := (Exa.keep f22 K20)
    have f28 := (Exa.keep f23 K20)
    have f29 := (Exa.keep f24 K20)
    have f30 := (Exa.keep A15 K20)
    obtain ⟨rfl, N25q, K25, A25⟩ := hQ25
    have N25 : Fr n0 L25 := by rw [l25]; exact Fr.app N20 N25q
    obtain ⟨b25, g25⟩ : ∃ z, z = T20.heap.size := ⟨_, rfl⟩
    rw [← g25] at st25 A25
    have g_b25 : n0 ≤ b25 := Nat.le_trans Z20 (Nat.le_of_eq g25.symm)
    have sz_b25 : h0.size ≤ b25 := Nat.le_trans KK20.1 (Nat.le_of_eq g25.symm)
    have Z25 : n0 ≤ T25.heap.size := Nat.le_trans Z20 K25.1
    have KK25 := Keep.trans KK20 K25 all0
    have pr31 : ∀ t, Steps p.tables e below (T25.setTop (mkF m 57 #[.val (.int p1), .val (.int p2), .val (.int p3), .val (.long q4), .second, .val (.long q5), .second, .val (.ref b6), .val (.ref b7), .val (.ref b12), .val (.ref b15), .val (.ref b20), .unset, .unset, .unset, .unset, .unset, .unset, .unset, .unset] [(.ref b25)])) t → Steps p.tables e below (s₁.setTop (entryFrame m #[(.int p1), (.int p2), (.int p3), (.long q4), (.long q5)] maxLocals)) t := by
      intro t k
      refine pr19 t ?_
      show Steps p.tables e below (T15.setTop (mkF m 42 #[.val (.int p1), .val (.int p2), .val (.int p3), .val (.long q4), .second, .val (.long q5), .second, .val (.ref b6), .val (.ref b7), .val (.ref b12), .unset, .unset, .unset, .unset, .unset, .unset, .unset, .unset, .unset, .unset] [(.ref b15)])) _
      refine XS.astore X15.here hx rfl (hb hby at_42) rfl rfl (l' := #[.val (.int p1), .val (.int p2), .val (.int p3), .val (.long q4), .second, .val (.long q5), .second, .val (.ref b6), .val (.ref b7), .val (.ref b12), .val (.ref b15), .unset, .unset, .unset, .unset, .unset, .unset, .unset, .unset, .unset]) rfl ?_
      show Steps p.tables e below (T15.setTop (mkF m 44 #[.val (.int p1), .val (.int p2), .val (.int p3), .val (.long q4), .second, .val (.long q5), .second, .val (.ref b6), .val (.ref b7), .val (.ref b12), .val (.ref b15), .unset, .unset, .unset, .unset, .unset, .unset, .unset, .unset, .unset] [])) _
      refine XS.iloadN X15.here hx rfl (hb hby at_44) rfl ?_
      show Steps p.tables e below (T15.setTop (mkF m 45 #[.val (.int p1), .val (.int p2), .val (.int p3), .val (.long q4), .second, .val (.long q5), .second, .val (.ref b6), .val (.ref b7), .val (.ref b12), .val (.ref b15), .unset, .unset, .unset, .unset, .unset, .unset, .unset, .unset, .unset] [(.int p2)])) _
      refine XS.iconst X15.here hx rfl (hb hby at_45) ?_
      show Steps p.tables e below (T15.setTop (mkF m 46 #[.val (.int p1), .val (.int p2), .val (.int p3), .val (.long q4), .second, .val (.long q5), .second, .val (.ref b6), .val (.ref b7), .val (.ref b12), .val (.ref b15), .unset, .unset, .unset, .unset, .unset, .unset, .unset, .unset, .unset] [(.int (0 : Int32)), (.int p2)])) _
      refine st20 _ ?_
      show Steps p.tables e below (T20.setTop (mkF m 49 #[.val (.int p1), .val (.int p2), .val (.int p3), .val (.long q4), .second, .val (.long q5), .second, .val (.ref b6), .val (.ref b7), .val (.ref b12), .val (.ref b15), .unset, .unset, .unset, .unset, .unset, .unset, .unset, .unset, .unset] [(.ref b20)])) _
      refine XS.astore X20.here hx rfl (hb hby at_49) rfl rfl (l' := #[.val (.int p1), .val (.int p2), .val (.int p3), .val (.long q4), .second, .val (.long q5), .second, .val (.ref b6), .val (.ref b7), .val (.ref b12), .val (.ref b15), .val (.ref b20), .unset, .unset, .unset, .unset, .unset, .unset, .unset, .unset]) rfl ?_
      show Steps p.tables e below (T20.setTop (mkF m 51 #[.val (.int p1), .val (.int p2), .val (.int p3), .val (.long q4), .second, .val (.long q5), .second, .val (.ref b6), .val (.ref b7), .val (.ref b12), .val (.ref b15), .val (.ref b20), .unset, .unset, .unset, .unset, .unset, .unset, .unset, .unset] [])) _
      refine XS.iloadN X20.here hx rfl (hb hby at_51) rfl ?_
      show Steps p.tables e below (T20.setTop (mkF m 52 #[.val (.int p1), .val (.int p2), .val (.int p3), .val (.long q4), .second, .val (.long q5), .second, .val (.ref b6), .val (.ref b7), .val (.ref b12), .val (.ref b15), .val (.ref b20), .unset, .unset, .unset, .unset, .unset, .unset, .unset, .unset] [(.int p2)])) _
      refine XS.bipush X20.here hx rfl (hb hby at_52) ?_
      show Steps p.tables e below (T20.setTop (mkF m 54 #[.val (.int p1), .val (.int p2), .val (.int p3), .val (.long q4), .second, .val (.long q5), .second, .val (.ref b6), .val (.ref b7), .val (.ref b12), .val (.ref b15), .val (.ref b20), .unset, .unset, .unset, .unset, .unset, .unset, .unset, .unset] [(.int (8 : Int32)), (.int p2)])) _
      refine st25 _ ?_
      exact k
    have f33 := (own_staKeep f26 K25 all0)
    obtain ⟨_, _, ⟨T32, L32, k32, n32⟩, -, X32, ⟨Lc32, hQ32, l32, y32, z32⟩, st32⟩ := Jvm.LawKit.callS X25 hx (y := (⟨"com/example/longpole/longpole/SpanWithServicePinLaw", "str", "(II)Ljava/lang/String;"⟩ : MethodName)) hown (mvT hZ (hw _ (List.mem_of_getElem? (i := 0) rfl))) (mvT hZ (hw _ (List.mem_of_getElem? (i := 1) rfl))) (mvT hZ (hw _ (List.mem_of_getElem? (i := 2) rfl))) (mvT hZ (hw _ (List.mem_of_getElem? (i := 3) rfl))) (by decide) (backOf (W := 0) (rm1 l Z a0 hw [] p2 (16 : Int32) s_COMPACT_STRINGS T25.heap n0 Z25 f33 hq_1_hq_2_hq3_1) hZ (hw _ (List.mem_of_getElem? (i := 3) rfl)) (hw _ (List.mem_of_getElem? (i := 2) rfl)) (by decide) (by decide)) (g := (mkF m 62 #[.val (.int p1), .val (.int p2), .val (.int p3), .val (.long q4), .second, .val (.long q5), .second, .val (.ref b6), .val (.ref b7), .val (.ref b12), .val (.ref b15), .val (.ref b20), .val (.ref b25), .unset, .unset, .unset, .unset, .unset, .unset, .unset] [(.int (16 : Int32)), (.int p2)])) rfl (by rw [hml]; rfl) (argsL := [(.int p2), (.int (16 : Int32))]) (rest := []) (lenOf pd_0_0 rfl) rfl (by show 2 * 0 + _ ≤ _; exact Nat.le_of_eq rfl) (hb hby at_62) (fun _ _ => ⟨rfl, rfl, (by decide : 12 + 2 ≤ _), (by decide : 30 + 5 ≤ _)⟩)
    dsimp only [Pt.U, Pt.locs, Pt.cells, Pt.slots] at X32 l32 y32 z32 st32 hQ32
    replace y32 : k32 = 14 := y32
    replace z32 : n32 = 35 := z32
    subst y32 z32
    have f34 := (Exa.keep f27 K25)
    have f35 := (Exa.keep f28 K25)
    have f36 := (Exa.keep f29 K25)
    have f37 := (Exa.keep f30 K25)
    have f38 := (Exa.keep A20 K25)
    obtain ⟨rfl, N32q, K32, A32⟩ := hQ32
    have N32 : Fr n0 L32 := by rw [l32]; exact Fr.app N25 N32q
    obtain ⟨b32, g32⟩ : ∃ z, z = T25.heap.size := ⟨_, rfl⟩
    rw [← g32] at st32 A32
    have g_b32 : n0 ≤ b32 := Nat.le_trans Z25 (Nat.le_of_eq g32.symm)
    have sz_b32 : h0.size ≤ b32 := Nat.le_trans KK25.1 (Nat.le_of_eq g32.symm)
    have Z32 : n0 ≤ T32.heap.size := Nat.le_trans Z25 K32.1
    have KK32 := Keep.trans KK25 K32 all0
    have pr39 : ∀ t, Steps p.tables e below (T32.setTop (mkF m 70 #[.val (.int p1), .val (.int p2), .val (.int p3), .val (.long q4), .second, .val (.long q5), .second, .val (.ref b6), .val (.ref b7), .val (.ref b12), .val (.ref b15), .val (.ref b20), .val (.ref b25), .val (.ref b32), .unset, .unset, .unset, .unset, .unset, .unset] [(.int (p3 &&& (1 : Int32)))])) t → Steps p.tables e below (s₁.setTop (entryFrame m #[(.int p1), (.int p2), (.int p3), (.long q4), (.long q5)] maxLocals)) t := by
      intro t k
      refine pr31 t ?_
      show Steps p.tables e below (T25.setTop (mkF m 57 #[.val (.int p1), .val (.int p2), .val (.int p3), .val (.long q4), .second, .val (.long q5), .second, .val (.ref b6), .val (.ref b7), .val (.ref b12), .val (.ref b15), .val (.ref b20), .unset, .unset, .unset, .unset, .unset, .unset, .unset, .unset] [(.ref b25)])) _
      refine XS.astore X25.here hx rfl (hb hby at_57) rfl rfl (l' := #[.val (.int p1), .val (.int p2), .val (.int p3), .val (.long q4), .second, .val (.long q5), .second, .val (.ref b6), .val (.ref b7), .val (.ref b12), .val (.ref b15), .val (.ref b20), .val (.ref b25), .unset, .unset, .unset, .unset, .unset, .unset, .unset]) rfl ?_
      show Steps p.tables e below (T25.setTop (mkF m 59 #[.val (.int p1), .val (.int p2), .val (.int p3), .val (.long q4), .second, .val (.long q5), .second, .val (.ref b6), .val (.ref b7), .val (.ref b12), .val (.ref b15), .val (.ref b20), .val (.ref b25), .unset, .unset, .unset, .unset, .unset, .unset, .unset] [])) _
      refine XS.iloadN X25.here hx rfl (hb hby at_59) rfl ?_
      show Steps p.tables e below (T25.setTop (mkF m 60 #[.val (.int p1), .val (.int p2), .val (.int p3), .val (.long q4), .second, .val (.long q5), .second, .val (.ref b6), .val (.ref b7), .val (.ref b12), .val (.ref b15), .val (.ref b20), .val (.ref b25), .unset, .unset, .unset, .unset, .unset, .unset, .unset] [(.int p2)])) _
      refine XS.bipush X25.here hx rfl (hb hby at_60) ?_
      show Steps p.tables e below (T25.setTop (mkF m 62 #[.val (.int p1), .val (.int p2), .val (.int p3), .val (.long q4), .second, .val (.long q5), .second, .val (.ref b6), .val (.ref b7), .val (.ref b12), .val (.ref b15), .val (.ref b20), .val (.ref b25), .unset, .unset, .unset, .unset, .unset, .unset, .unset] [(.int (16 : Int32)), (.int p2)])) _
      refine st32 _ ?_
      show Steps p.tables e below (T32.setTop (mkF m 65 #[.val (.int p1), .val (.int p2), .val (.int p3), .val (.long q4), .second, .val (.long q5), .second, .val (.ref b6), .val (.ref b7), .val (.ref b12), .val (.ref b15), .val (.ref b20), .val (.ref b25), .unset, .unset, .unset, .unset, .unset, .unset, .unset] [(.ref b32)])) _
      refine XS.astore X32.here hx rfl (hb hby at_65) rfl rfl (l' := #[.val (.int p1), .val (.int p2), .val (.int p3), .val (.long q4), .second, .val (.long q5), .second, .val (.ref b6), .val (.ref b7), .val (.ref b12), .val (.ref b15), .val (.ref b20), .val (.ref b25), .val (.ref b32), .unset, .unset, .unset, .unset, .unset, .unset]) rfl ?_
      show Steps p.tables e below (T32.setTop (mkF m 67 #[.val (.int p1), .val (.int p2), .val (.int p3), .val (.long q4), .second, .val (.long q5), .second, .val (.ref b6), .val (.ref b7), .val (.ref b12), .val (.ref b15), .val (.ref b20), .val (.ref b25), .val (.ref b32), .unset, .unset, .unset, .unset, .unset, .unset] [])) _
      refine XS.iloadN X32.here hx rfl (hb hby at_67) rfl ?_
      show Steps p.tables e below (T32.setTop (mkF m 68 #[.val (.int p1), .val (.int p2), .val (.int p3), .val (.long q4), .second, .val (.long q5), .second, .val (.ref b6), .val (.ref b7), .val (.ref b12), .val (.ref b15), .val (.ref b20), .val (.ref b25), .val (.ref b32), .unset, .unset, .unset, .unset, .unset, .unset] [(.int p3)])) _
      refine XS.iconst X32.here hx rfl (hb hby at_68) ?_
      show Steps p.tables e below (T32.setTop (mkF m 69 #[.val (.int p1), .val (.int p2), .val (.int p3), .val (.long q4), .second, .val (.long q5), .second, .val (.ref b6), .val (.ref b7), .val (.ref b12), .val (.ref b15), .val (.ref b20), .val (.ref b25), .val (.ref b32), .unset, .unset, .unset, .unset, .unset, .unset] [(.int (1 : Int32)), (.int p3)])) _
      refine XS.iand X32.here hx rfl (hb hby at_69) rfl ?_
      exact k
    have pr40 : ∀ t, Steps p.tables e below (T32.setTop (mkF m 78 #[.val (.int p1), .val (.int p2), .val (.int p3), .val (.long q4), .second, .val (.long q5), .second, .val (.ref b6), .val (.ref b7), .val (.ref b12), .val (.ref b15), .val (.ref b20), .val (.ref b25), .val (.ref b32), .unset, .unset, .unset, .unset, .unset, .unset] [(.int (if (p3 &&& (1 : Int32)) = (0 : Int32) then (0 : Int32) else (1 : Int32)))])) t → Steps p.tables e below (s₁.setTop (entryFrame m #[(.int p1), (.int p2), (.int p3), (.long q4), (.long q5)] maxLocals)) t := by
      intro t k
      refine pr39 t ?_
      show Steps p.tables e below (T32.setTop (mkF m 70 #[.val (.int p1), .val (.int p2), .val (.int p3), .val (.long q4), .second, .val (.long q5), .second, .val (.ref b6), .val (.ref b7), .val (.ref b12), .val (.ref b15), .val (.ref b20), .val (.ref b25), .val (.ref b32), .unset, .unset, .unset, .unset, .unset, .unset] [(.int (p3 &&& (1 : Int32)))])) _
      by_cases hc41 : (p3 &&& (1 : Int32)) = (0 : Int32)
      · rw [if_pos hc41] at k
        refine XS.ifYes X32.here hx rfl (pc0 := 70) (pc' := 77) rfl (hb hby at_70) rfl ((if0 _ _).trans (teq hc41).1) (by decide) (by decide) ?_
        show Steps p.tables e below (T32.setTop (mkF m 77 #[.val (.int p1), .val (.int p2), .val (.int p3), .val (.long q4), .second, .val (.long q5), .second, .val (.ref b6), .val (.ref b7), .val (.ref b12), .val (.ref b15), .val (.ref b20), .val (.ref b25), .val (.ref b32), .unset, .unset, .unset, .unset, .unset, .unset] [])) _
        refine XS.iconst X32.here hx rfl (hb hby at_77) ?_
        exact k
      · rw [if_neg hc41] at k
        refine XS.ifNo X32.here hx rfl (hb hby at_70) rfl ((if0 _ _).trans (feq hc41).1) ?_
        show Steps p.tables e below (T32.setTop (mkF m 73 #[.val (.int p1), .val (.int p2), .val (.int p3), .val (.long q4), .second, .val (.long q5), .second, .val (.ref b6), .val (.ref b7), .val (.ref b12), .val (.ref b15), .val (.ref b20), .val (.ref b25), .val (.ref b32), .unset, .unset, .unset, .unset, .unset, .unset] [])) _
        refine XS.iconst X32.here hx rfl (hb hby at_73) ?_
        show Steps p.tables e below (T32.setTop (mkF m 74 #[.val (.int p1), .val (.int p2), .val (.int p3), .val (.long q4), .second, .val (.long q5), .second, .val (.ref b6), .val (.ref b7), .val (.ref b12), .val (.ref b15), .val (.ref b20), .val (.ref b25), .val (.ref b32), .unset, .unset, .unset, .unset, .unset, .unset] [(.int (1 : Int32))])) _
        refine XS.goto X32.here hx rfl (pc0 := 74) (pc' := 78) rfl (hb hby at_74) (by decide) (by decide) ?_
        exact k
    have pr43 : ∀ t, Steps p.tables e below (T32.setTop (mkF m 91 #[.val (.int p1), .val (.int p2), .val (.int p3), .val (.long q4), .second, .val (.long q5), .second, .val (.ref b6), .val (.ref b7), .val (.ref b12), .val (.ref b15), .val (.ref b20), .val (.ref b25), .val (.ref b32), .val (.int (if (p3 &&& (1 : Int32)) = (0 : Int32) then (0 : Int32) else (1 : Int32))), .unset, .unset, .unset, .unset, .unset] [(.int (if (p3 &&& (2 : Int32)) = (0 : Int32) then (0 : Int32) else (1 : Int32)))])) t → Steps p.tables e below (s₁.setTop (entryFrame m #[(.int p1), (.int p2), (.int p3), (.long q4), (.long q5)] maxLocals)) t := by
      intro t k
      refine pr40 t ?_
      show Steps p.tables e below (T32.setTop (mkF m 78 #[.val (.int p1), .val (.int p2), .val (.int p3), .val (.long q4), .second, .val (.long q5), .second, .val (.ref b6), .val (.ref b7), .val (.ref b12), .val (.ref b15), .val (.ref b20), .val (.ref b25), .val (.ref b32), .unset, .unset, .unset, .unset, .unset, .unset] [(.int (if (p3 &&& (1 : Int32)) = (0 : Int32) then (0 : Int32) else (1 : Int32)))])) _
      refine XS.istore X32.here hx rfl (hb hby at_78) rfl (l' := #[.val (.int p1), .val (.int p2), .val (.int p3), .val (.long q4), .second, .val (.long q5), .second, .val (.ref b6), .val (.ref b7), .val (.ref b12), .val (.ref b15), .val (.ref b20), .val (.ref b25), .val (.ref b32), .val (.int (if (p3 &&& (1 : Int32)) = (0 : Int32) then (0 : Int32) else (1 : Int32))), .unset, .unset, .unset, .unset, .unset]) rfl ?_
      show Steps p.tables e below (T32.setTop (mkF m 80 #[.val (.int p1), .val (.int p2), .val (.int p3), .val (.long q4), .second, .val (.long q5), .second, .val (.ref b6), .val (.ref b7), .val (.ref b12), .val (.ref b15), .val (.ref b20), .val (.ref b25), .val (.ref b32), .val (.int (if (p3 &&& (1 : Int32)) = (0 : Int32) then (0 : Int32) else (1 : Int32))), .unset, .unset, .unset, .unset, .unset] [])) _
      refine XS.iloadN X32.here hx rfl (hb hby at_80) rfl ?_
      show Steps p.tables e below (T32.setTop (mkF m 81 #[.val (.int p1), .val (.int p2), .val (.int p3), .val (.long q4), .second, .val (.long q5), .second, .val (.ref b6), .val (.ref b7), .val (.ref b12), .val (.ref b15), .val (.ref b20), .val (.ref b25), .val (.ref b32), .val (.int (if (p3 &&& (1 : Int32)) = (0 : Int32) then (0 : Int32) else (1 : Int32))), .unset, .unset, .unset, .unset, .unset] [(.int p3)])) _
      refine XS.iconst X32.here hx rfl (hb hby at_81) ?_
      show Steps p.tables e below (T32.setTop (mkF m 82 #[.val (.int p1), .val (.int p2), .val (.int p3), .val (.long q4), .second, .val (.long q5), .second, .val (.ref b6), .val (.ref b7), .val (.ref b12), .val (.ref b15), .val (.ref b20), .val (.ref b25), .val (.ref b32), .val (.int (if (p3 &&& (1 : Int32)) = (0 : Int32) then (0 : Int32) else (1 : Int32))), .unset, .unset, .unset, .unset, .unset] [(.int (2 : Int32)), (.int p3)])) _
      refine XS.iand X32.here hx rfl (hb hby at_82) rfl ?_
      show Steps p.tables e below (T32.setTop (mkF m 83 #[.val (.int p1), .val (.int p2), .val (.int p3), .val (.long q4), .second, .val (.long q5), .second, .val (.ref b6), .val (.ref b7), .val (.ref b12), .val (.ref b15), .val (.ref b20), .val (.ref b25), .val (.ref b32), .val (.int (if (p3 &&& (1 : Int32)) = (0 : Int32) then (0 : Int32) else (1 : Int32))), .unset, .unset, .unset, .unset, .unset] [(.int (p3 &&& (2 : Int32)))])) _
      by_cases hc44 : (p3 &&& (2 : Int32)) = (0 : Int32)
      · rw [if_pos hc44] at k
        refine XS.ifYes X32.here hx rfl (pc0 := 83) (pc' := 90) rfl (hb hby at_83) rfl ((if0 _ _).trans (teq hc44).1) (by decide) (by decide) ?_
        show Steps p.tables e below (T32.setTop (mkF m 90 #[.val (.int p1), .val (.int p2), .val (.int p3), .val (.long q4), .second, .val (.long q5), .second, .val (.ref b6), .val (.ref b7), .val (.ref b12), .val (.ref b15), .val (.ref b20), .val (.ref b25), .val (.ref b32), .val (.int (if (p3 &&& (1 : Int32)) = (0 : Int32) then (0 : Int32) else (1 : Int32))), .unset, .unset, .unset, .unset, .unset] [])) _
        refine XS.iconst X32.here hx rfl (hb hby at_90) ?_
        exact k
      · rw [if_neg hc44] at k
        refine XS.ifNo X32.here hx rfl (hb hby at_83) rfl ((if0 _ _).trans (feq hc44).1) ?_
        show Steps p.tables e below (T32.setTop (mkF m 86 #[.val (.int p1), .val (.int p2), .val (.int p3), .val (.long q4), .second, .val (.long q5), .second, .val (.ref b6), .val (.ref b7), .val (.ref b12), .val (.ref b15), .val (.ref b20), .val (.ref b25), .val (.ref b32), .val (.int (if (p3 &&& (1 : Int32)) = (0 : Int32) then (0 : Int32) else (1 : Int32))), .unset, .unset, .unset, .unset, .unset] [])) _
        refine XS.iconst X32.here hx rfl (hb hby at_86) ?_
        show Steps p.tables e below (T32.setTop (mkF m 87 #[.val (.int p1), .val (.int p2), .val (.int p3), .val (.long q4), .second, .val (.long q5), .second, .val (.ref b6), .val (.ref b7), .val (.ref b12), .val (.ref b15), .val (.ref b20), .val (.ref b25), .val (.ref b32), .val (.int (if (p3 &&& (1 : Int32)) = (0 : Int32) then (0 : Int32) else (1 : Int32))), .unset, .unset, .unset, .unset, .unset] [(.int (1 : Int32))])) _
        refine XS.goto X32.here hx rfl (pc0 := 87) (pc' := 91) rfl (hb hby at_87) (by decide) (by decide) ?_
        exact k
    have pr46 : ∀ t, Steps p.tables e below (T32.setTop (mkF m 104 #[.val (.int p1), .val (.int p2), .val (.int p3), .val (.long q4), .second, .val (.long q5), .second, .val (.ref b6), .val (.ref b7), .val (.ref b12), .val (.ref b15), .val (.ref b20), .val (.ref b25), .val (.ref b32), .val (.int (if (p3 &&& (1 : Int32)) = (0 : Int32) then (0 : Int32) else (1 : Int32))), .val (.int (if (p3 &&& (2 : Int32)) = (0 : Int32) then (0 : Int32) else (1 : Int32))), .unset, .unset, .unset, .unset] [(.int (if (p3 &&& (4 : Int32)) = (0 : Int32) then (0 : Int32) else (1 : Int32)))])) t → Steps p.tables e below (s₁.setTop (entryFrame m #[(.int p1), (.int p2), (.int p3), (.long q4), (.long q5)] maxLocals)) t := by
      intro t k
      refine pr43 t ?_
      show Steps p.tables e below (T32.setTop (mkF m 91 #[.val (.int p1), .val (.int p2), .val (.int p3), .val (.long q4), .second, .val (.long q5), .second, .val (.ref b6), .val (.ref b7), .val (.ref b12), .val (.ref b15), .val (.ref b20), .val (.ref b25), .val (.ref b32), .val (.int (if (p3 &&& (1 : Int32)) = (0 : Int32) then (0 : Int32) else (1 : Int32))), .unset, .unset, .unset, .unset, .unset] [(.int (if (p3 &&& (2 : Int32)) = (0 : Int32) then (0 : Int32) else (1 : Int32)))])) _
      refine XS.istore X32.here hx rfl (hb hby at_91) rfl (l' := #[.val (.int p1), .val (.int p2), .val (.int p3), .val (.long q4), .second, .val (.long q5), .second, .val (.ref b6), .val (.ref b7), .val (.ref b12), .val (.ref b15), .val (.ref b20), .val (.ref b25), .val (.ref b32), .val (.int (if (p3 &&& (1 : Int32)) = (0 : Int32) then (0 : Int32) else (1 : Int32))), .val (.int (if (p3 &&& (2 : Int32)) = (0 : Int32) then (0 : Int32) else (1 : Int32))), .unset, .unset, .unset, .unset]) rfl ?_
      show Steps p.tables e below (T32.setTop (mkF m 93 #[.val (.int p1), .val (.int p2), .val (.int p3), .val (.long q4), .second, .val (.long q5), .second, .val (.ref b6), .val (.ref b7), .val (.ref b12), .val (.ref b15), .val (.ref b20), .val (.ref b25), .val (.ref b32), .val (.int (if (p3 &&& (1 : Int32)) = (0 : Int32) then (0 : Int32) else (1 : Int32))), .val (.int (if (p3 &&& (2 : Int32)) = (0 : Int32) then (0 : Int32) else (1 : Int32))), .unset, .unset, .unset, .unset] [])) _
      refine XS.iloadN X32.here hx rfl (hb hby at_93) rfl ?_
      show Steps p.tables e below (T32.setTop (mkF m 94 #[.val (.int p1), .val (.int p2), .val (.int p3), .val (.long q4), .second, .val (.long q5), .second, .val (.ref b6), .val (.ref b7), .val (.ref b12), .val (.ref b15), .val (.ref b20), .val (.ref b25), .val (.ref b32), .val (.int (if (p3 &&& (1 : Int32)) = (0 : Int32) then (0 : Int32) else (1 : Int32))), .val (.int (if (p3 &&& (2 : Int32)) = (0 : Int32) then (0 : Int32) else (1 : Int32))), .unset, .unset, .unset, .unset] [(.int p3)])) _
      refine XS.iconst X32.here hx rfl (hb hby at_94) ?_
      show Steps p.tables e below (T32.setTop (mkF m 95 #[.val (.int p1), .val (.int p2), .val (.int p3), .val (.long q4), .second, .val (.long q5), .second, .val (.ref b6), .val (.ref b7), .val (.ref b12), .val (.ref b15), .val (.ref b20), .val (.ref b25), .val (.ref b32), .val (.int (if (p3 &&& (1 : Int32)) = (0 : Int32) then (0 : Int32) else (1 : Int32))), .val (.int (if (p3 &&& (2 : Int32)) = (0 : Int32) then (0 : Int32) else (1 : Int32))), .unset, .unset, .unset, .unset] [(.int (4 : Int32)), (.int p3)])) _
      refine XS.iand X32.here hx rfl (hb hby at_95) rfl ?_
      show Steps p.tables e below (T32.setTop (mkF m 96 #[.val (.int p1), .val (.int p2), .val (.int p3), .val (.long q4), .second, .val (.long q5), .second, .val (.ref b6), .val (.ref b7), .val (.ref b12), .val (.ref b15), .val (.ref b20), .val (.ref b25), .val (.ref b32), .val (.int (if (p3 &&& (1 : Int32)) = (0 : Int32) then (0 : Int32) else (1 : Int32))), .val (.int (if (p3 &&& (2 : Int32)) = (0 : Int32) then (0 : Int32) else (1 : Int32))), .unset, .unset, .unset, .unset] [(.int (p3 &&& (4 : Int32)))])) _
      by_cases hc47 : (p3 &&& (4 : Int32)) = (0 : Int32)
      · rw [if_pos hc47] at k
        refine XS.ifYes X32.here hx rfl (pc0 := 96) (pc' := 103) rfl (hb hby at_96) rfl ((if0 _ _).trans (teq hc47).1) (by decide) (by decide) ?_
        show Steps p.tables e below (T32.setTop (mkF m 103 #[.val (.int p1), .val (.int p2), .val (.int p3), .val (.long q4), .second, .val (.long q5), .second, .val (.ref b6), .val (.ref b7), .val (.ref b12), .val (.ref b15), .val (.ref b20), .val (.ref b25), .val (.ref b32), .val (.int (if (p3 &&& (1 : Int32)) = (0 : Int32) then (0 : Int32) else (1 : Int32))), .val (.int (if (p3 &&& (2 : Int32)) = (0 : Int32) then (0 : Int32) else (1 : Int32))), .unset, .unset, .unset, .unset] [])) _
        refine XS.iconst X32.here hx rfl (hb hby at_103) ?_
        exact k
      · rw [if_neg hc47] at k
        refine XS.ifNo X32.here hx rfl (hb hby at_96) rfl ((if0 _ _).trans (feq hc47).1) ?_
        show Steps p.tables e below (T32.setTop (mkF m 99 #[.val (.int p1), .val (.int p2), .val (.int p3), .val (.long q4), .second, .val (.long q5), .second, .val (.ref b6), .val (.ref b7), .val (.ref b12), .val (.ref b15), .val (.ref b20), .val (.ref b25), .val (.ref b32), .val (.int (if (p3 &&& (1 : Int32)) = (0 : Int32) then (0 : Int32) else (1 : Int32))), .val (.int (if (p3 &&& (2 : Int32)) = (0 : Int32) then (0 : Int32) else (1 : Int32))), .unset, .unset, .unset, .unset] [])) _
        refine XS.iconst X32.here hx rfl (hb hby at_99) ?_
        show Steps p.tables e below (T32.setTop (mkF m 100 #[.val (.int p1), .val (.int p2), .val (.int p3), .val (.long q4), .second, .val (.long q5), .second, .val (.ref b6), .val (.ref b7), .val (.ref b12), .val (.ref b15), .val (.ref b20), .val (.ref b25), .val (.ref b32), .val (.int (if (p3 &&& (1 : Int32)) = (0 : Int32) then (0 : Int32) else (1 : Int32))), .val (.int (if (p3 &&& (2 : Int32)) = (0 : Int32) then (0 : Int32) else (1 : Int32))), .unset, .unset, .unset, .unset] [(.int (1 : Int32))])) _
        refine XS.goto X32.here hx rfl (pc0 := 100) (pc' := 104) rfl (hb hby at_100) (by decide) (by decide) ?_
        exact k
    have pr49 : ∀ t, Steps p.tables e below (T32.setTop (mkF m 114 #[.val (.int p1), .val (.int p2), .val (.int p3), .val (.long q4), .second, .val (.long q5), .second, .val (.ref b6), .val (.ref b7), .val (.ref b12), .val (.ref b15), .val (.ref b20), .val (.ref b25), .val (.ref b32), .val (.int (if (p3 &&& (1 : Int32)) = (0 : Int32) then (0 : Int32) else (1 : Int32))), .val (.int (if (p3 &&& (2 : Int32)) = (0 : Int32) then (0 : Int32) else (1 : Int32))), .val (.int (if (p3 &&& (4 : Int32)) = (0 : Int32) then (0 : Int32) else (1 : Int32))), .unset, .unset, .unset] [(.int ((((p3.toUInt32 >>> ((3 : Int32) &&& 31).toUInt32).toInt32) &&& (7 : Int32)) % (5 : Int32)))])) t → Steps p.tables e below (s₁.setTop (entryFrame m #[(.int p1), (.int p2), (.int p3), (.long q4), (.long q5)] maxLocals)) t := by
      intro t k
      refine pr46 t ?_
      show Steps p.tables e below (T32.setTop (mkF m 104 #[.val (.int p1), .val (.int p2), .val (.int p3), .val (.long q4), .second, .val (.long q5), .second, .val (.ref b6), .val (.ref b7), .val (.ref b12), .val (.ref b15), .val (.ref b20), .val (.ref b25), .val (.ref b32), .val (.int (if (p3 &&& (1 : Int32)) = (0 : Int32) then (0 : Int32) else (1 : Int32))), .val (.int (if (p3 &&& (2 : Int32)) = (0 : Int32) then (0 : Int32) else (1 : Int32))), .unset, .unset, .unset, .unset] [(.int (if (p3 &&& (4 : Int32)) = (0 : Int32) then (0 : Int32) else (1 : Int32)))])) _
      refine XS.istore X32.here hx rfl (hb hby at_104) rfl (l' := #[.val (.int p1), .val (.int p2), .val (.int p3), .val (.long q4), .second, .val (.long q5), .second, .val (.ref b6), .val (.ref b7), .val (.ref b12), .val (.ref b15), .val (.ref b20), .val (.ref b25), .val (.ref b32), .val (.int (if (p3 &&& (1 : Int32)) = (0 : Int32) then (0 : Int32) else (1 : Int32))), .val (.int (if (p3 &&& (2 : Int32)) = (0 : Int32) then (0 : Int32) else (1 : Int32))), .val (.int (if (p3 &&& (4 : Int32)) = (0 : Int32) then (0 : Int32) else (1 : Int32))), .unset, .unset, .unset]) rfl ?_
      show Steps p.tables e below (T32.setTop (mkF m 106 #[.val (.int p1), .val (.int p2), .val (.int p3), .val (.long q4), .second, .val (.long q5), .second, .val (.ref b6), .val (.ref b7), .val (.ref b12), .val (.ref b15), .val (.ref b20), .val (.ref b25), .val (.ref b32), .val (.int (if (p3 &&& (1 : Int32)) = (0 : Int32) then (0 : Int32) else (1 : Int32))), .val (.int (if (p3 &&& (2 : Int32)) = (0 : Int32) then (0 : Int32) else (1 : Int32))), .val (.int (if (p3 &&& (4 : Int32)) = (0 : Int32) then (0 : Int32) else (1 : Int32))), .unset, .unset, .unset] [])) _
      refine XS.iloadN X32.here hx rfl (hb hby at_106) rfl ?_
      show Steps p.tables e below (T32.setTop (mkF m 107 #[.val (.int p1), .val (.int p2), .val (.int p3), .val (.long q4), .second, .val (.long q5), .second, .val (.ref b6), .val (.ref b7), .val (.ref b12), .val (.ref b15), .val (.ref b20), .val (.ref b25), .val (.ref b32), .val (.int (if (p3 &&& (1 : Int32)) = (0 : Int32) then (0 : Int32) else (1 : Int32))), .val (.int (if (p3 &&& (2 : Int32)) = (0 : Int32) then (0 : Int32) else (1 : Int32))), .val (.int (if (p3 &&& (4 : Int32)) = (0 : Int32) then (0 : Int32) else (1 : Int32))), .unset, .unset, .unset] [(.int p3)])) _
      refine XS.iconst X32.here hx rfl (hb hby at_107) ?_
      show Steps p.tables e below (T32.setTop (mkF m 108 #[.val (.int p1), .val (.int p2), .val (.int p3), .val (.long q4), .second, .val (.long q5), .second, .val (.ref b6), .val (.ref b7), .val (.ref b12), .val (.ref b15), .val (.ref b20), .val (.ref b25), .val (.ref b32), .val (.int (if (p3 &&& (1 : Int32)) = (0 : Int32) then (0 : Int32) else (1 : Int32))), .val (.int (if (p3 &&& (2 : Int32)) = (0 : Int32) then (0 : Int32) else (1 : Int32))), .val (.int (if (p3 &&& (4 : Int32)) = (0 : Int32) then (0 : Int32) else (1 : Int32))), .unset, .unset, .unset] [(.int (3 : Int32)), (.int p3)])) _
      refine XS.iushr X32.here hx rfl (hb hby at_108) rfl ?_
      show Steps p.tables e below (T32.setTop (mkF m 109 #[.val (.int p1), .val (.int p2), .val (.int p3), .val (.long q4), .second, .val (.long q5), .second, .val (.ref b6), .val (.ref b7), .val (.ref b12), .val (.ref b15), .val (.ref b20), .val (.ref b25), .val (.ref b32), .val (.int (if (p3 &&& (1 : Int32)) = (0 : Int32) then (0 : Int32) else (1 : Int32))), .val (.int (if (p3 &&& (2 : Int32)) = (0 : Int32) then (0 : Int32) else (1 : Int32))), .val (.int (if (p3 &&& (4 : Int32)) = (0 : Int32) then (0 : Int32) else (1 : Int32))), .unset, .unset, .unset] [(.int ((p3.toUInt32 >>> ((3 : Int32) &&& 31).toUInt32).toInt32))])) _
      refine XS.bipush X32.here hx rfl (hb hby at_109) ?_
      show Steps p.tables e below (T32.setTop (mkF m 111 #[.val (.int p1), .val (.int p2), .val (.int p3), .val (.long q4), .second, .val (.long q5), .second, .val (.ref b6), .val (.ref b7), .val (.ref b12), .val (.ref b15), .val (.ref b20), .val (.ref b25), .val (.ref b32), .val (.int (if (p3 &&& (1 : Int32)) = (0 : Int32) then (0 : Int32) else (1 : Int32))), .val (.int (if (p3 &&& (2 : Int32)) = (0 : Int32) then (0 : Int32) else (1 : Int32))), .val (.int (if (p3 &&& (4 : Int32)) = (0 : Int32) then (0 : Int32) else (1 : Int32))), .unset, .unset, .unset] [(.int (7 : Int32)), (.int ((p3.toUInt32 >>> ((3 : Int32) &&& 31).toUInt32).toInt32))])) _
      refine XS.iand X32.here hx rfl (hb hby at_111) rfl ?_
      show Steps p.tables e below (T32.setTop (mkF m 112 #[.val (.int p1), .val (.int p2), .val (.int p3), .val (.long q4), .second, .val (.long q5), .second, .val (.ref b6), .val (.ref b7), .val (.ref b12), .val (.ref b15), .val (.ref b20), .val (.ref b25), .val (.ref b32), .val (.int (if (p3 &&& (1 : Int32)) = (0 : Int32) then (0 : Int32) else (1 : Int32))), .val (.int (if (p3 &&& (2 : Int32)) = (0 : Int32) then (0 : Int32) else (1 : Int32))), .val (.int (if (p3 &&& (4 : Int32)) = (0 : Int32) then (0 : Int32) else (1 : Int32))), .unset, .unset, .unset] [(.int (((p3.toUInt32 >>> ((3 : Int32) &&& 31).toUInt32).toInt32) &&& (7 : Int32)))])) _
      refine XS.iconst X32.here hx rfl (hb hby at_112) ?_
      show Steps p.tables e below (T32.setTop (mkF m 113 #[.val (.int p1), .val (.int p2), .val (.int p3), .val (.long q4), .second, .val (.long q5), .second, .val (.ref b6), .val (.ref b7), .val (.ref b12), .val (.ref b15), .val (.ref b20), .val (.ref b25), .val (.ref b32), .val (.int (if (p3 &&& (1 : Int32)) = (0 : Int32) then (0 : Int32) else (1 : Int32))), .val (.int (if (p3 &&& (2 : Int32)) = (0 : Int32) then (0 : Int32) else (1 : Int32))), .val (.int (if (p3 &&& (4 : Int32)) = (0 : Int32) then (0 : Int32) else (1 : Int32))), .unset, .unset, .unset] [(.int (5 : Int32)), (.int (((p3.toUInt32 >>> ((3 : Int32) &&& 31).toUInt32).toInt32) &&& (7 : Int32)))])) _
      refine iremM X32 hx rfl (hb hby at_113) rfl (by decide) ?_
      exact k
    have f51 := (own_staKeep (own_staKeep (own_staKeep (own_staKeep (own_staKeep (own_staKeep (own_staKeep S_INTERNAL K6 all0) K7 all0) K12 all0) K15 all0) K20 all0) K25 all0) K32 all0)
    have f52 := (own_staKeep (own_staKeep (own_staKeep (own_staKeep (own_staKeep (own_staKeep (own_staKeep S_CLIENT K6 all0) K7 all0) K12 all0) K15 all0) K20 all0) K25 all0) K32 all0)
    have f53 := (own_staKeep (own_staKeep (own_staKeep (own_staKeep (own_staKeep (own_staKeep (own_staKeep S_SERVER K6 all0) K7 all0) K12 all0) K15 all0) K20 all0) K25 all0) K32 all0)
    have f54 := (own_staKeep (own_staKeep (own_staKeep (own_staKeep (own_staKeep (own_staKeep (own_staKeep S_PRODUCER K6 all0) K7 all0) K12 all0) K15 all0) K20 all0) K25 all0) K32 all0)
    have f55 := (own_staKeep (own_staKeep (own_staKeep (own_staKeep (own_staKeep (own_staKeep (own_staKeep S_CONSUMER K6 all0) K7 all0) K12 all0) K15 all0) K20 all0) K25 all0) K32 all0)
    obtain ⟨_, _, ⟨T50, L50, k50, n50⟩, -, X50, ⟨Lc50, hQ50, l50, y50, z50⟩, st50⟩ := Jvm.LawKit.callS X32 hx (y := (⟨"com/example/longpole/longpole/SpanWithServicePinLaw", "kind", "(I)Lcom/example/longpole/longpole/Span$Kind;"⟩ : MethodName)) hown (mvT hZ (hw _ (List.mem_of_getElem? (i := 30) rfl))) (mvT hZ (hw _ (List.mem_of_getElem? (i := 31) rfl))) (mvT hZ (hw _ (List.mem_of_getElem? (i := 2) rfl))) (mvT hZ (hw _ (List.mem_of_getElem? (i := 32) rfl))) (by decide) (backOf (W := 0) (rm7 l Z a0 hw [] ((((p3.toUInt32 >>> ((3 : Int32) &&& 31).toUInt32).toInt32) &&& (7 : Int32)) % (5 : Int32)) s_INTERNAL s_CLIENT s_SERVER s_PRODUCER s_CONSUMER T32.heap n0 Z32 f51 f52 f53 f54 f55) hZ (hw _ (List.mem_of_getElem? (i := 32) rfl)) (hw _ (List.mem_of_getElem? (i := 2) rfl)) (by decide) (by decide)) (g := (mkF m 114 #[.val (.int p1), .val (.int p2), .val (.int p3), .val (.long q4), .second, .val (.long q5), .second, .val (.ref b6), .val (.ref b7), .val (.ref b12), .val (.ref b15), .val (.ref b20), .val (.ref b25), .val (.ref b32), .val (.int (if (p3 &&& (1 : Int32)) = (0 : Int32) then (0 : Int32) else (1 : Int32))), .val (.int (if (p3 &&& (2 : Int32)) = (0 : Int32) then (0 : Int32) else (1 : Int32))), .val (.int (if (p3 &&& (4 : Int32)) = (0 : Int32) then (0 : Int32) else (1 : Int32))), .unset, .unset, .unset] [(.int ((((p3.toUInt32 >>> ((3 : Int32) &&& 31).toUInt32).toInt32) &&& (7 : Int32)) % (5 : Int32)))])) rfl (by rw [hml]; rfl) (argsL := [(.int ((((p3.toUInt32 >>> ((3 : Int32) &&& 31).toUInt32).toInt32) &&& (7 : Int32)) % (5 : Int32)))]) (rest := []) (lenOf pd_0_1 rfl) rfl (by show 2 * 0 + _ ≤ _; exact Nat.le_of_eq rfl) (hb hby at_114) (fun _ _ => ⟨rfl, rfl, (by decide : 14 + 0 ≤ _), (by decide : 35 + 0 ≤ _)⟩)
    dsimp only [Pt.U, Pt.locs, Pt.cells, Pt.slots] at X50 l50 y50 z50 st50 hQ50
    replace y50 : k50 = 14 := y50
    replace z50 : n50 = 35 := z50
    subst y50 z50
    obtain ⟨rfl, N50q, e50⟩ := hQ50
    have N50 : Fr n0 L50 := by rw [l50]; exact Fr.app N32 N50q
    have f57 := (Exa.keep f34 K32)
    have f58 := (Exa.keep f35 K32)
    have f59 := (Exa.keep f36 K32)
    have f60 := (Exa.keep f37 K32)
    have f61 := (Exa.keep f38 K32)
    have f62 := (Exa.keep A25 K32)
    obtain ⟨T56, h56, X56, e56, E56, A56, D56, -, st56⟩ := newO X50 hx hZ hown (hw _ (List.mem_of_getElem? (i := 36) rfl)) (hw _ (List.mem_of_getElem? (i := 37) rfl)) (hw _ (List.mem_of_getElem? (i := 38) rfl)) e50 (g := (mkF m 119 #[.val (.int p1), .val (.int p2), .val (.int p3), .val (.long q4), .second, .val (.long q5), .second, .val (.ref b6), .val (.ref b7), .val (.ref b12), .val (.ref b15), .val (.ref b20), .val (.ref b25), .val (.ref b32), .val (.int (if (p3 &&& (1 : Int32)) = (0 : Int32) then (0 : Int32) else (1 : Int32))), .val (.int (if (p3 &&& (2 : Int32)) = (0 : Int32) then (0 : Int32) else (1 : Int32))), .val (.int (if (p3 &&& (4 : Int32)) = (0 : Int32) then (0 : Int32) else (1 : Int32))), .val (.ref (own_f7 ((((p3.toUInt32 >>> ((3 : Int32) &&& 31).toUInt32).toInt32) &&& (7 : Int32)) % (5 : Int32)) s_INTERNAL s_CLIENT s_SERVER s_PRODUCER s_CONSUMER)), .unset, .unset] [])) rfl (hb hby at_119) (by decide) (by decide)
    obtain ⟨b56, g56⟩ : ∃ z, z = T32.heap.size := ⟨_, rfl⟩
    rw [← g56] at A56 D56 st56
    have g_b56 : n0 ≤ b56 := Nat.le_trans Z32 (Nat.le_of_eq g56.symm)
    have sz_b56 : h0.size ≤ b56 := Nat.le_trans KK32.1 (Nat.le_of_eq g56.symm)
    have Z56 : n0 ≤ h56.size := Nat.le_trans Z32 E56.1
    have KK56 := (Keep.ext KK32 E56)
    have X56 : Stand p l e room_1 s m #[(.int p1), (.int p2), (.int p3), (.long q4), (.long q5)] below meth c T56 _ 15 47 := X56
    have F56_traceId : Fld Z h56 b56 "com/example/longpole/longpole/Span" "traceId" "Ljava/lang/String;" .null := D56 (Or.inr (hw _ (List.mem_of_getElem? (i := 49) rfl))) (ty := (.object "java/lang/String")) (by decide)
    have F56_id : Fld Z h56 b56 "com/example/longpole/longpole/Span" "id" "Ljava/lang/String;" .null := D56 (Or.inr (hw _ (List.mem_of_getElem? (i := 51) rfl))) (ty := (.object "java/lang/String")) (by decide)
    have F56_parentId : Fld Z h56 b56 "com/example/longpole/longpole/Span" "parentId" "Ljava/lang/String;" .null := D56 (Or.inr (hw _ (List.mem_of_getElem? (i := 53) rfl))) (ty := (.object "java/lang/String")) (by decide)
    have F56_awaited : Fld Z h56 b56 "com/example/longpole/longpole/Span" "awaited" "Z" (.int (0 : Int32)) := D56 (Or.inr (hw _ (List.mem_of_getElem? (i := 55) rfl))) (ty := .boolean) (by decide)
    have F56_kind : Fld Z h56 b56 "com/example/longpole/longpole/Span" "kind" "Lcom/example/longpole/longpole/Span$Kind;" .null := D56 (Or.inr (hw _ (List.mem_of_getElem? (i := 57) rfl))) (ty := (.object "com/example/longpole/longpole/Span$Kind")) (by decide)
    have F56_shared : Fld Z h56 b56 "com/example/longpole/longpole/Span" "shared" "Z" (.int (0 : Int32)) := D56 (Or.inr (hw _ (List.mem_of_getElem? (i := 59) rfl))) (ty := .boolean) (by decide)
    have F56_service : Fld Z h56 b56 "com/example/longpole/longpole/Span" "service" "Ljava/lang/String;" .null := D56 (Or.inr (hw _ (List.mem_of_getElem? (i := 61) rfl))) (ty := (.object "java/lang/String")) (by decide)
    have F56_name : Fld Z h56 b56 "com/example/longpole/longpole/Span" "name" "Ljava/lang/String;" .null := D56 (Or.inr (hw _ (List.mem_of_getElem? (i := 63) rfl))) (ty := (.object "java/lang/String")) (by decide)
    have F56_remoteService : Fld Z h56 b56 "com/example/longpole/longpole/Span" "remoteService" "Ljava/lang/String;" .null := D56 (Or.inr (hw _ (List.mem_of_getElem? (i := 65) rfl))) (ty := (.object "java/lang/String")) (by decide)
    have F56_hasTimestamp : Fld Z h56 b56 "com/example/longpole/longpole/Span" "hasTimestamp" "Z" (.int (0 : Int32)) := D56 (Or.inr (hw _ (List.mem_of_getElem? (i := 67) rfl))) (ty := .boolean) (by decide)
    have F56_startMicros : Fld Z h56 b56 "com/example/longpole/longpole/Span" "startMicros" "J" (.long (0 : Int64)) := D56 (Or.inr (hw _ (List.mem_of_getElem? (i := 69) rfl))) (ty := .long) (by decide)
    have F56_durationMicros : Fld Z h56 b56 "com/example/longpole/longpole/Span" "durationMicros" "J" (.long (0 : Int64)) := D56 (Or.inr (hw _ (List.mem_of_getElem? (i := 71) rfl))) (ty := .long) (by decide)
    have pr63 : ∀ t, Steps p.tables e below (T56.setTop (mkF m 131 #[.val (.int p1), .val (.int p2), .val (.int p3), .val (.long q4), .second, .val (.long q5), .second, .val (.ref b6), .val (.ref b7), .val (.ref b12), .val (.ref b15), .val (.ref b20), .val (.ref b25), .val (.ref b32), .val (.int (if (p3 &&& (1 : Int32)) = (0 : Int32) then (0 : Int32) else (1 : Int32))), .val (.int (if (p3 &&& (2 : Int32)) = (0 : Int32) then (0 : Int32) else (1 : Int32))), .val (.int (if (p3 &&& (4 : Int32)) = (0 : Int32) then (0 : Int32) else (1 : Int32))), .val (.ref (own_f7 ((((p3.toUInt32 >>> ((3 : Int32) &&& 31).toUInt32).toInt32) &&& (7 : Int32)) % (5 : Int32)) s_INTERNAL s_CLIENT s_SERVER s_PRODUCER s_CONSUMER)), .unset, .unset] [(.int (if (p3 &&& (1 : Int32)) = (0 : Int32) then (0 : Int32) else (1 : Int32))), (.ref b12), (.ref b7), (.ref b6), (.ref b56), (.ref b56)])) t → Steps p.tables e below (s₁.setTop (entryFrame m #[(.int p1), (.int p2), (.int p3), (.long q4), (.long q5)] maxLocals)) t := by
      intro t k
      refine pr49 t ?_
      show Steps p.tables e below (T32.setTop (mkF m 114 #[.val (.int p1), .val (.int p2), .val (.int p3), .val (.long q4), .second, .val (.long q5), .second, .val (.ref b6), .val (.ref b7), .val (.ref b12), .val (.ref b15), .val (.ref b20), .val (.ref b25), .val (.ref b32), .val (.int (if (p3 &&& (1 : Int32)) = (0 : Int32) then (0 : Int32) else (1 : Int32))), .val (.int (if (p3 &&& (2 : Int32)) = (0 : Int32) then (0 : Int32) else (1 : Int32))), .val (.int (if (p3 &&& (4 : Int32)) = (0 : Int32) then (0 : Int32) else (1 : Int32))), .unset, .unset, .unset] [(.int ((((p3.toUInt32 >>> ((3 : Int32) &&& 31).toUInt32).toInt32) &&& (7 : Int32)) % (5 : Int32)))])) _
      refine st50 _ ?_
      show Steps p.tables e below (T50.setTop (mkF m 117 #[.val (.int p1), .val (.int p2), .val (.int p3), .val (.long q4), .second, .val (.long q5), .second, .val (.ref b6), .val (.ref b7), .val (.ref b12), .val (.ref b15), .val (.ref b20), .val (.ref b25), .val (.ref b32), .val (.int (if (p3 &&& (1 : Int32)) = (0 : Int32) then (0 : Int32) else (1 : Int32))), .val (.int (if (p3 &&& (2 : Int32)) = (0 : Int32) then (0 : Int32) else (1 : Int32))), .val (.int (if (p3 &&& (4 : Int32)) = (0 : Int32) then (0 : Int32) else (1 : Int32))), .unset, .unset, .unset] [(.ref (own_f7 ((((p3.toUInt32 >>> ((3 : Int32) &&& 31).toUInt32).toInt32) &&& (7 : Int32)) % (5 : Int32)) s_INTERNAL s_CLIENT s_SERVER s_PRODUCER s_CONSUMER))])) _
      refine XS.astore X50.here hx rfl (hb hby at_117) rfl rfl (l' := #[.val (.int p1), .val (.int p2), .val (.int p3), .val (.long q4), .second, .val (.long q5), .second, .val (.ref b6), .val (.ref b7), .val (.ref b12), .val (.ref b15), .val (.ref b20), .val (.ref b25), .val (.ref b32), .val (.int (if (p3 &&& (1 : Int32)) = (0 : Int32) then (0 : Int32) else (1 : Int32))), .val (.int (if (p3 &&& (2 : Int32)) = (0 : Int32) then (0 : Int32) else (1 : Int32))), .val (.int (if (p3 &&& (4 : Int32)) = (0 : Int32) then (0 : Int32) else (1 : Int32))), .val (.ref (own_f7 ((((p3.toUInt32 >>> ((3 : Int32) &&& 31).toUInt32).toInt32) &&& (7 : Int32)) % (5 : Int32)) s_INTERNAL s_CLIENT s_SERVER s_PRODUCER s_CONSUMER)), .unset, .unset]) rfl ?_
      show Steps p.tables e below (T50.setTop (mkF m 119 #[.val (.int p1), .val (.int p2), .val (.int p3), .val (.long q4), .second, .val (.long q5), .second, .val (.ref b6), .val (.ref b7), .val (.ref b12), .val (.ref b15), .val (.ref b20), .val (.ref b25), .val (.ref b32), .val (.int (if (p3 &&& (1 : Int32)) = (0 : Int32) then (0 : Int32) else (1 : Int32))), .val (.int (if (p3 &&& (2 : Int32)) = (0 : Int32) then (0 : Int32) else (1 : Int32))), .val (.int (if (p3 &&& (4 : Int32)) = (0 : Int32) then (0 : Int32) else (1 : Int32))), .val (.ref (own_f7 ((((p3.toUInt32 >>> ((3 : Int32) &&& 31).toUInt32).toInt32) &&& (7 : Int32)) % (5 : Int32)) s_INTERNAL s_CLIENT s_SERVER s_PRODUCER s_CONSUMER)), .unset, .unset] [])) _
      refine st56 _ ?_
      show Steps p.tables e below (T56.setTop (mkF m 122 #[.val (.int p1), .val (.int p2), .val (.int p3), .val (.long q4), .second, .val (.long q5), .second, .val (.ref b6), .val (.ref b7), .val (.ref b12), .val (.ref b15), .val (.ref b20), .val (.ref b25), .val (.ref b32), .val (.int (if (p3 &&& (1 : Int32)) = (0 : Int32) then (0 : Int32) else (1 : Int32))), .val (.int (if (p3 &&& (2 : Int32)) = (0 : Int32) then (0 : Int32) else (1 : Int32))), .val (.int (if (p3 &&& (4 : Int32)) = (0 : Int32) then (0 : Int32) else (1 : Int32))), .val (.ref (own_f7 ((((p3.toUInt32 >>> ((3 : Int32) &&& 31).toUInt32).toInt32) &&& (7 : Int32)) % (5 : Int32)) s_INTERNAL s_CLIENT s_SERVER s_PRODUCER s_CONSUMER)), .unset, .unset] [(.ref b56)])) _
      refine XS.dup X56.here hx rfl (hb hby at_122) rfl rfl ?_
      show Steps p.tables e below (T56.setTop (mkF m 123 #[.val (.int p1), .val (.int p2), .val (.int p3), .val (.long q4), .second, .val (.long q5), .second, .val (.ref b6), .val (.ref b7), .val (.ref b12), .val (.ref b15), .val (.ref b20), .val (.ref b25), .val (.ref b32), .val (.int (if (p3 &&& (1 : Int32)) = (0 : Int32) then (0 : Int32) else (1 : Int32))), .val (.int (if (p3 &&& (2 : Int32)) = (0 : Int32) then (0 : Int32) else (1 : Int32))), .val (.int (if (p3 &&& (4 : Int32)) = (0 : Int32) then (0 : Int32) else (1 : Int32))), .val (.ref (own_f7 ((((p3.toUInt32 >>> ((3 : Int32) &&& 31).toUInt32).toInt32) &&& (7 : Int32)) % (5 : Int32)) s_INTERNAL s_CLIENT s_SERVER s_PRODUCER s_CONSUMER)), .unset, .unset] [(.ref b56), (.ref b56)])) _
      refine XS.aload X56.here hx rfl (hb hby at_123) rfl rfl ?_
      show Steps p.tables e below (T56.setTop (mkF m 125 #[.val (.int p1), .val (.int p2), .val (.int p3), .val (.long q4), .second, .val (.long q5), .second, .val (.ref b6), .val (.ref b7), .val (.ref b12), .val (.ref b15), .val (.ref b20), .val (.ref b25), .val (.ref b32), .val (.int (if (p3 &&& (1 : Int32)) = (0 : Int32) then (0 : Int32) else (1 : Int32))), .val (.int (if (p3 &&& (2 : Int32)) = (0 : Int32) then (0 : Int32) else (1 : Int32))), .val (.int (if (p3 &&& (4 : Int32)) = (0 : Int32) then (0 : Int32) else (1 : Int32))), .val (.ref (own_f7 ((((p3.toUInt32 >>> ((3 : Int32) &&& 31).toUInt32).toInt32) &&& (7 : Int32)) % (5 : Int32)) s_INTERNAL s_CLIENT s_SERVER s_PRODUCER s_CONSUMER)), .unset, .unset] [(.ref b6), (.ref b56), (.ref b56)])) _
      refine XS.aload X56.here hx rfl (hb hby at_125) rfl rfl ?_
      show Steps p.tables e below (T56.setTop (mkF m 127 #[.val (.int p1), .val (.int p2), .val (.int p3), .val (.long q4), .second, .val (.long q5), .second, .val (.ref b6), .val (.ref b7), .val (.ref b12), .val (.ref b15), .val (.ref b20), .val (.ref b25), .val (.ref b32), .val (.int (if (p3 &&& (1 : Int32)) = (0 : Int32) then (0 : Int32) else (1 : Int32))), .val (.int (if (p3 &&& (2 : Int32)) = (0 : Int32) then (0 : Int32) else (1 : Int32))), .val (.int (if (p3 &&& (4 : Int32)) = (0 : Int32) then (0 : Int32) else (1 : Int32))), .val (.ref (own_f7 ((((p3.toUInt32 >>> ((3 : Int32) &&& 31).toUInt32).toInt32) &&& (7 : Int32)) % (5 : Int32)) s_INTERNAL s_CLIENT s_SERVER s_PRODUCER s_CONSUMER)), .unset, .unset] [(.ref b7), (.ref b6), (.ref b56), (.ref b56)])) _
      refine XS.aload X56.here hx rfl (hb hby at_127) rfl rfl ?_
      show Steps p.tables e below (T56.setTop (mkF m 129 #[.val (.int p1), .val (.int p2), .val (.int p3), .val (.long q4), .second, .val (.long q5), .second, .val (.ref b6), .val (.ref b7), .val (.ref b12), .val (.ref b15), .val (.ref b20), .val (.ref b25), .val (.ref b32), .val (.int (if (p3 &&& (1 : Int32)) = (0 : Int32) then (0 : Int32) else (1 : Int32))), .val (.int (if (p3 &&& (2 : Int32)) = (0 : Int32) then (0 : Int32) else (1 : Int32))), .val (.int (if (p3 &&& (4 : Int32)) = (0 : Int32) then (0 : Int32) else (1 : Int32))), .val (.ref (own_f7 ((((p3.toUInt32 >>> ((3 : Int32) &&& 31).toUInt32).toInt32) &&& (7 : Int32)) % (5 : Int32)) s_INTERNAL s_CLIENT s_SERVER s_PRODUCER s_CONSUMER)), .unset, .unset] [(.ref b12), (.ref b7), (.ref b6), (.ref b56), (.ref b56)])) _
      refine XS.iload X56.here hx rfl (hb hby at_129) rfl ?_
      exact k
    have pr64 : ∀ t, Steps p.tables e below (T56.setTop (mkF m 146 #[.val (.int p1), .val (.int p2), .val (.int p3), .val (.long q4), .second, .val (.long q5), .second, .val (.ref b6), .val (.ref b7), .val (.ref b12), .val (.ref b15), .val (.ref b20), .val (.ref b25), .val (.ref b32), .val (.int (if (p3 &&& (1 : Int32)) = (0 : Int32) then (0 : Int32) else (1 : Int32))), .val (.int (if (p3 &&& (2 : Int32)) = (0 : Int32) then (0 : Int32) else (1 : Int32))), .val (.int (if (p3 &&& (4 : Int32)) = (0 : Int32) then (0 : Int32) else (1 : Int32))), .val (.ref (own_f7 ((((p3.toUInt32 >>> ((3 : Int32) &&& 31).toUInt32).toInt32) &&& (7 : Int32)) % (5 : Int32)) s_INTERNAL s_CLIENT s_SERVER s_PRODUCER s_CONSUMER)), .unset, .unset] [(.long q5), (.long q4), (.int (if (p3 &&& (4 : Int32)) = (0 : Int32) then (0 : Int32) else (1 : Int32))), (.ref b25), (.ref b20), (.ref b15), (.int (if (p3 &&& (2 : Int32)) = (0 : Int32) then (0 : Int32) else (1 : Int32))), (.ref (own_f7 ((((p3.toUInt32 >>> ((3 : Int32) &&& 31).toUInt32).toInt32) &&& (7 : Int32)) % (5 : Int32)) s_INTERNAL s_CLIENT s_SERVER s_PRODUCER s_CONSUMER)), (.int (if (p3 &&& (1 : Int32)) = (0 : Int32) then (0 : Int32) else (1 : Int32))), (.ref b12), (.ref b7), (.ref b6), (.ref b56), (.ref b56)])) t → Steps p.tables e below (s₁.setTop (entryFrame m #[(.int p1), (.int p2), (.int p3), (.long q4), (.long q5)] maxLocals)) t := by
      intro t k
      refine pr63 t ?_
      show Steps p.tables e below (T56.setTop (mkF m 131 #[.val (.int p1), .val (.int p2), .val (.int p3), .val (.long q4), .second, .val (.long q5), .second, .val (.ref b6), .val (.ref b7), .val (.ref b12), .val (.ref b15), .val (.ref b20), .val (.ref b25), .val (.ref b32), .val (.int (if (p3 &&& (1 : Int32)) = (0 : Int32) then (0 : Int32) else (1 : Int32))), .val (.int (if (p3 &&& (2 : Int32)) = (0 : Int32) then (0 : Int32) else (1 : Int32))), .val (.int (if (p3 &&& (4 : Int32)) = (0 : Int32) then (0 : Int32) else (1 : Int32))), .val (.ref (own_f7 ((((p3.toUInt32 >>> ((3 : Int32) &&& 31).toUInt32).toInt32) &&& (7 : Int32)) % (5 : Int32)) s_INTERNAL s_CLIENT s_SERVER s_PRODUCER s_CONSUMER)), .unset, .unset] [(.int (if (p3 &&& (1 : Int32)) = (0 : Int32) then (0 : Int32) else (1 : Int32))), (.ref b12), (.ref b7), (.ref b6), (.ref b56), (.ref b56)])) _
      refine XS.aload X56.here hx rfl (hb hby at_131) rfl rfl ?_
      show Steps p.tables e below (T56.setTop (mkF m 133 #[.val (.int p1), .val (.int p2), .val (.int p3), .val (.long q4), .second, .val (.long q5), .second, .val (.ref b6), .val (.ref b7), .val (.ref b12), .val (.ref b15), .val (.ref b20), .val (.ref b25), .val (.ref b32), .val (.int (if (p3 &&& (1 : Int32)) = (0 : Int32) then (0 : Int32) else (1 : Int32))), .val (.int (if (p3 &&& (2 : Int32)) = (0 : Int32) then (0 : Int32) else (1 : Int32))), .val (.int (if (p3 &&& (4 : Int32)) = (0 : Int32) then (0 : Int32) else (1 : Int32))), .val (.ref (own_f7 ((((p3.toUInt32 >>> ((3 : Int32) &&& 31).toUInt32).toInt32) &&& (7 : Int32)) % (5 : Int32)) s_INTERNAL s_CLIENT s_SERVER s_PRODUCER s_CONSUMER)), .unset, .unset] [(.ref (own_f7 ((((p3.toUInt32 >>> ((3 : Int32) &&& 31).toUInt32).toInt32) &&& (7 : Int32)) % (5 : Int32)) s_INTERNAL s_CLIENT s_SERVER s_PRODUCER s_CONSUMER)), (.int (if (p3 &&& (1 : Int32)) = (0 : Int32) then (0 : Int32) else (1 : Int32))), (.ref b12), (.ref b7), (.ref b6), (.ref b56), (.ref b56)])) _
      refine XS.iload X56.here hx rfl (hb hby at_133) rfl ?_
      show Steps p.tables e below (T56.setTop (mkF m 135 #[.val (.int p1), .val (.int p2), .val (.int p3), .val (.long q4), .second, .val (.long q5), .second, .val (.ref b6), .val (.ref b7), .val (.ref b12), .val (.ref b15), .val (.ref b20), .val (.ref b25), .val (.ref b32), .val (.int (if (p3 &&& (1 : Int32)) = (0 : Int32) then (0 : Int32) else (1 : Int32))), .val (.int (if (p3 &&& (2 : Int32)) = (0 : Int32) then (0 : Int32) else (1 : Int32))), .val (.int (if (p3 &&& (4 : Int32)) = (0 : Int32) then (0 : Int32) else (1 : Int32))), .val (.ref (own_f7 ((((p3.toUInt32 >>> ((3 : Int32) &&& 31).toUInt32).toInt32) &&& (7 : Int32)) % (5 : Int32)) s_INTERNAL s_CLIENT s_SERVER s_PRODUCER s_CONSUMER)), .unset, .unset] [(.int (if (p3 &&& (2 : Int32)) = (0 : Int32) then (0 : Int32) else (1 : Int32))), (.ref (own_f7 ((((p3.toUInt32 >>> ((3 : Int32) &&& 31).toUInt32).toInt32) &&& (7 : Int32)) % (5 : Int32)) s_INTERNAL s_CLIENT s_SERVER s_PRODUCER s_CONSUMER)), (.int (if (p3 &&& (1 : Int32)) = (0 : Int32) then (0 : Int32) else (1 : Int32))), (.ref b12), (.ref b7), (.ref b6), (.ref b56), (.ref b56)])) _
      refine XS.aload X56.here hx rfl (hb hby at_135) rfl rfl ?_
      show Steps p.tables e below (T56.setTop (mkF m 137 #[.val (.int p1), .val (.int p2), .val (.int p3), .val (.long q4), .second, .val (.long q5), .second, .val (.ref b6), .val (.ref b7), .val (.ref b12), .val (.ref b15), .val (.ref b20), .val (.ref b25), .val (.ref b32), .val (.int (if (p3 &&& (1 : Int32)) = (0 : Int32) then (0 : Int32) else (1 : Int32))), .val (.int (if (p3 &&& (2 : Int32)) = (0 : Int32) then (0 : Int32) else (1 : Int32))), .val (.int (if (p3 &&& (4 : Int32)) = (0 : Int32) then (0 : Int32) else (1 : Int32))), .val (.ref (own_f7 ((((p3.toUInt32 >>> ((3 : Int32) &&& 31).toUInt32).toInt32) &&& (7 : Int32)) % (5 : Int32)) s_INTERNAL s_CLIENT s_SERVER s_PRODUCER s_CONSUMER)), .unset, .unset] [(.ref b15), (.int (if (p3 &&& (2 : Int32)) = (0 : Int32) then (0 : Int32) else (1 : Int32))), (.ref (own_f7 ((((p3.toUInt32 >>> ((3 : Int32) &&& 31).toUInt32).toInt32) &&& (7 : Int32)) % (5 : Int32)) s_INTERNAL s_CLIENT s_SERVER s_PRODUCER s_CONSUMER)), (.int (if (p3 &&& (1 : Int32)) = (0 : Int32) then (0 : Int32) else (1 : Int32))), (.ref b12), (.ref b7), (.ref b6), (.ref b56), (.ref b56)])) _
      refine XS.aload X56.here hx rfl (hb hby at_137) rfl rfl ?_
      show Steps p.tables e below (T56.setTop (mkF m 139 #[.val (.int p1), .val (.int p2), .val (.int p3), .val (.long q4), .second, .val (.long q5), .second, .val (.ref b6), .val (.ref b7), .val (.ref b12), .val (.ref b15), .val (.ref b20), .val (.ref b25), .val (.ref b32), .val (.int (if (p3 &&& (1 : Int32)) = (0 : Int32) then (0 : Int32) else (1 : Int32))), .val (.int (if (p3 &&& (2 : Int32)) = (0 : Int32) then (0 : Int32) else (1 : Int32))), .val (.int (if (p3 &&& (4 : Int32)) = (0 : Int32) then (0 : Int32) else (1 : Int32))), .val (.ref (own_f7 ((((p3.toUInt32 >>> ((3 : Int32) &&& 31).toUInt32).toInt32) &&& (7 : Int32)) % (5 : Int32)) s_INTERNAL s_CLIENT s_SERVER s_PRODUCER s_CONSUMER)), .unset, .unset] [(.ref b20), (.ref b15), (.int (if (p3 &&& (2 : Int32)) = (0 : Int32) then (0 : Int32) else (1 : Int32))), (.ref (own_f7 ((((p3.toUInt32 >>> ((3 : Int32) &&& 31).toUInt32).toInt32) &&& (7 : Int32)) % (5 : Int32)) s_INTERNAL s_CLIENT s_SERVER s_PRODUCER s_CONSUMER)), (.int (if (p3 &&& (1 : Int32)) = (0 : Int32) then (0 : Int32) else (1 : Int32))), (.ref b12), (.ref b7), (.ref b6), (.ref b56), (.ref b56)])) _
      refine XS.aload X56.here hx rfl (hb hby at_139) rfl rfl ?_
      show Steps p.tables e below (T56.setTop (mkF m 141 #[.val (.int p1), .val (.int p2), .val (.int p3), .val (.long q4), .second, .val (.long q5), .second, .val (.ref b6), .val (.ref b7), .val (.ref b12), .val (.ref b15), .val (.ref b20), .val (.ref b25), .val (.ref b32), .val (.int (if (p3 &&& (1 : Int32)) = (0 : Int32) then (0 : Int32) else (1 : Int32))), .val (.int (if (p3 &&& (2 : Int32)) = (0 : Int32) then (0 : Int32) else (1 : Int32))), .val (.int (if (p3 &&& (4 : Int32)) = (0 : Int32) then (0 : Int32) else (1 : Int32))), .val (.ref (own_f7 ((((p3.toUInt32 >>> ((3 : Int32) &&& 31).toUInt32).toInt32) &&& (7 : Int32)) % (5 : Int32)) s_INTERNAL s_CLIENT s_SERVER s_PRODUCER s_CONSUMER)), .unset, .unset] [(.ref b25), (.ref b20), (.ref b15), (.int (if (p3 &&& (2 : Int32)) = (0 : Int32) then (0 : Int32) else (1 : Int32))), (.ref (own_f7 ((((p3.toUInt32 >>> ((3 : Int32) &&& 31).toUInt32).toInt32) &&& (7 : Int32)) % (5 : Int32)) s_INTERNAL s_CLIENT s_SERVER s_PRODUCER s_CONSUMER)), (.int (if (p3 &&& (1 : Int32)) = (0 : Int32) then (0 : Int32) else (1 : Int32))), (.ref b12), (.ref b7), (.ref b6), (.ref b56), (.ref b56)])) _
      refine XS.iload X56.here hx rfl (hb hby at_141) rfl ?_
      show Steps p.tables e below (T56.setTop (mkF m 143 #[.val (.int p1), .val (.int p2), .val (.int p3), .val (.long q4), .second, .val (.long q5), .second, .val (.ref b6), .val (.ref b7), .val (.ref b12), .val (.ref b15), .val (.ref b20), .val (.ref b25), .val (.ref b32), .val (.int (if (p3 &&& (1 : Int32)) = (0 : Int32) then (0 : Int32) else (1 : Int32))), .val (.int (if (p3 &&& (2 : Int32)) = (0 : Int32) then (0 : Int32) else (1 : Int32))), .val (.int (if (p3 &&& (4 : Int32)) = (0 : Int32) then (0 : Int32) else (1 : Int32))), .val (.ref (own_f7 ((((p3.toUInt32 >>> ((3 : Int32) &&& 31).toUInt32).toInt32) &&& (7 : Int32)) % (5 : Int32)) s_INTERNAL s_CLIENT s_SERVER s_PRODUCER s_CONSUMER)), .unset, .unset] [(.int (if (p3 &&& (4 : Int32)) = (0 : Int32) then (0 : Int32) else (1 : Int32))), (.ref b25), (.ref b20), (.ref b15), (.int (if (p3 &&& (2 : Int32)) = (0 : Int32) then (0 : Int32) else (1 : Int32))), (.ref (own_f7 ((((p3.toUInt32 >>> ((3 : Int32) &&& 31).toUInt32).toInt32) &&& (7 : Int32)) % (5 : Int32)) s_INTERNAL s_CLIENT s_SERVER s_PRODUCER s_CONSUMER)), (.int (if (p3 &&& (1 : Int32)) = (0 : Int32) then (0 : Int32) else (1 : Int32))), (.ref b12), (.ref b7), (.ref b6), (.ref b56), (.ref b56)])) _
      refine XS.lloadN X56.here hx rfl (hb hby at_143) rfl ?_
      show Steps p.tables e below (T56.setTop (mkF m 144 #[.val (.int p1), .val (.int p2), .val (.int p3), .val (.long q4), .second, .val (.long q5), .second, .val (.ref b6), .val (.ref b7), .val (.ref b12), .val (.ref b15), .val (.ref b20), .val (.ref b25), .val (.ref b32), .val (.int (if (p3 &&& (1 : Int32)) = (0 : Int32) then (0 : Int32) else (1 : Int32))), .val (.int (if (p3 &&& (2 : Int32)) = (0 : Int32) then (0 : Int32) else (1 : Int32))), .val (.int (if (p3 &&& (4 : Int32)) = (0 : Int32) then (0 : Int32) else (1 : Int32))), .val (.ref (own_f7 ((((p3.toUInt32 >>> ((3 : Int32) &&& 31).toUInt32).toInt32) &&& (7 : Int32)) % (5 : Int32)) s_INTERNAL s_CLIENT s_SERVER s_PRODUCER s_CONSUMER)), .unset, .unset] [(.long q4), (.int (if (p3 &&& (4 : Int32)) = (0 : Int32) then (0 : Int32) else (1 : Int32))), (.ref b25), (.ref b20), (.ref b15), (.int (if (p3 &&& (2 : Int32)) = (0 : Int32) then (0 : Int32) else (1 : Int32))), (.ref (own_f7 ((((p3.toUInt32 >>> ((3 : Int32) &&& 31).toUInt32).toInt32) &&& (7 : Int32)) % (5 : Int32)) s_INTERNAL s_CLIENT s_SERVER s_PRODUCER s_CONSUMER)), (.int (if (p3 &&& (1 : Int32)) = (0 : Int32) then (0 : Int32) else (1 : Int32))), (.ref b12), (.ref b7), (.ref b6), (.ref b56), (.ref b56)])) _
      refine XS.lload X56.here hx rfl (hb hby at_144) rfl ?_
      exact k
    obtain ⟨_, _, ⟨T65, L65, k65, n65⟩, -, X65, ⟨Lc65, hQ65, l65, y65, z65⟩, st65⟩ := X56.specialBack hx (y := (⟨"com/example/longpole/longpole/Span", "<init>", "(Ljava/lang/String;Ljava/lang/String;Ljava/lang/String;ZLcom/example/longpole/longpole/Span$Kind;ZLjava/lang/String;Ljava/lang/String;Ljava/lang/String;ZJJ)V"⟩ : MethodName)) rfl hown (mvT hZ (hw _ (List.mem_of_getElem? (i := 39) rfl))) (mvT hZ (hw _ (List.mem_of_getElem? (i := 40) rfl))) (mvT hZ (hw _ (List.mem_of_getElem? (i := 41) rfl))) (by decide) (backOf (W := 1) (rm8 l Z a0 hw [] b56 (Value.ref b6) (Value.ref b7) (Value.ref b12) (if (p3 &&& (1 : Int32)) = (0 : Int32) then (0 : Int32) else (1 : Int32)) (Value.ref (own_f7 ((((p3.toUInt32 >>> ((3 : Int32) &&& 31).toUInt32).toInt32) &&& (7 : Int32)) % (5 : Int32)) s_INTERNAL s_CLIENT s_SERVER s_PRODUCER s_CONSUMER)) (if (p3 &&& (2 : Int32)) = (0 : Int32) then (0 : Int32) else (1 : Int32)) (Value.ref b15) (Value.ref b20) (Value.ref b25) (if (p3 &&& (4 : Int32)) = (0 : Int32) then (0 : Int32) else (1 : Int32)) q4 q5 .null .null .null (.int (0 : Int32)) .null (.int (0 : Int32)) .null .null .null (.int (0 : Int32)) (.long (0 : Int64)) (.long (0 : Int64)) h56 n0 Z56 rfl rfl rfl rfl rfl rfl rfl g_b56 A56 F56_traceId F56_id F56_parentId F56_awaited F56_kind F56_shared F56_service F56_name F56_remoteService F56_hasTimestamp F56_startMicros F56_durationMicros) hZ (hw _ (List.mem_of_getElem? (i := 41) rfl)) (hw _ (List.mem_of_getElem? (i := 38) rfl)) (by decide) (by decide)) (g := (mkF m 146 #[.val (.int p1), .val (.int p2), .val (.int p3), .val (.long q4), .second, .val (.long q5), .second, .val (.ref b6), .val (.ref b7), .val (.ref b12), .val (.ref b15), .val (.ref b20), .val (.ref b25), .val (.ref b32), .val (.int (if (p3 &&& (1 : Int32)) = (0 : Int32) then (0 : Int32) else (1 : Int32))), .val (.int (if (p3 &&& (2 : Int32)) = (0 : Int32) then (0 : Int32) else (1 : Int32))), .val (.int (if (p3 &&& (4 : Int32)) = (0 : Int32) then (0 : Int32) else (1 : Int32))), .val (.ref (own_f7 ((((p3.toUInt32 >>> ((3 : Int32) &&& 31).toUInt32).toInt32) &&& (7 : Int32)) % (5 : Int32)) s_INTERNAL s_CLIENT s_SERVER s_PRODUCER s_CONSUMER)), .unset, .unset] [(.long q5), (.long q4), (.int (if (p3 &&& (4 : Int32)) = (0 : Int32) then (0 : Int32) else (1 : Int32))), (.ref b25), (.ref b20), (.ref b15), (.int (if (p3 &&& (2 : Int32)) = (0 : Int32) then (0 : Int32) else (1 : Int32))), (.ref (own_f7 ((((p3.toUInt32 >>> ((3 : Int32) &&& 31).toUInt32).toInt32) &&& (7 : Int32)) % (5 : Int32)) s_INTERNAL s_CLIENT s_SERVER s_PRODUCER s_CONSUMER)), (.int (if (p3 &&& (1 : Int32)) = (0 : Int32) then (0 : Int32) else (1 : Int32))), (.ref b12), (.ref b7), (.ref b6), (.ref b56), (.ref b56)])) rfl (by rw [hml]; rfl) (Steps.refl _) (a := b56) (argsL := [(.ref b6), (.ref b7), (.ref b12), (.int (if (p3 &&& (1 : Int32)) = (0 : Int32) then (0 : Int32) else (1 : Int32))), (.ref (own_f7 ((((p3.toUInt32 >>> ((3 : Int32) &&& 31).toUInt32).toInt32) &&& (7 : Int32)) % (5 : Int32)) s_INTERNAL s_CLIENT s_SERVER s_PRODUCER s_CONSUMER)), (.int (if (p3 &&& (2 : Int32)) = (0 : Int32) then (0 : Int32) else (1 : Int32))), (.ref b15), (.ref b20), (.ref b25), (.int (if (p3 &&& (4 : Int32)) = (0 : Int32) then (0 : Int32) else (1 : Int32))), (.long q4), (.long q5)]) (rest := [(.ref b56)]) (lenOf pd_0_2 rfl) rfl (by show 2 * 0 + _ ≤ _; exact Nat.le_of_eq rfl) (hb hby at_146) (fun _ _ => ⟨rfl, e56, (by decide : 15 + 0 ≤ _), (by decide : 47 + 0 ≤ _)⟩)
    dsimp only [Pt.U, Pt.locs, Pt.cells, Pt.slots] at X65 l65 y65 z65 st65 hQ65
    replace y65 : k65 = 15 := y65
    replace z65 : n65 = 47 := z65
    subst y65 z65
    obtain ⟨rfl, N65q, K65, A65, G65_traceId, G65_id, G65_parentId, G65_awaited, G65_kind, G65_shared, G65_service, G65_name, G65_remoteService, G65_hasTimestamp, G65_startMicros, G65_durationMicros⟩ := hQ65
    have N65 : Fr n0 L65 := by rw [l65]; exact Fr.app N50 N65q
    have Z65 : n0 ≤ T65.heap.size := Nat.le_trans Z56 K65.1
    have KK65 := Keep.trans KK56 K65 (allS (Or.inr sz_b56) all0)
    obtain ⟨cq66, kq66, q66a, q66b, q66c⟩ := isOf hZ rfl A65
    obtain ⟨_, _, ⟨T66, L66, k66, n66⟩, -, X66, ⟨Lc66, hQ66, l66, y66, z66⟩, st66⟩ := X65.virtualBack hx (y := (⟨"com/example/longpole/longpole/Span", "withService", "(Ljava/lang/String;)Lcom/example/longpole/longpole/Span;"⟩ : MethodName)) (z := (⟨"com/example/longpole/longpole/Span", "withService", "(Ljava/lang/String;)Lcom/example/longpole/longpole/Span;"⟩ : MethodName)) hown (mvT hZ (hw _ (List.mem_of_getElem? (i := 72) rfl))) (mvT hZ (hw _ (List.mem_of_getElem? (i := 73) rfl))) (notFace_of_selects (args := #[]) (mvT hZ (hw _ (List.mem_of_getElem? (i := 75) rfl)))) (mvT hZ (hw _ (List.mem_of_getElem? (i := 75) rfl))) (mvT hZ (hw _ (List.mem_of_getElem? (i := 74) rfl))) (by decide) (backOf (W := 0) (rm10 l Z a0 hw [] b56 (Value.ref b32) (Value.ref b6) (Value.ref b7) (Value.ref b12) (nar .boolean (if (p3 &&& (1 : Int32)) = (0 : Int32) then (0 : Int32) else (1 : Int32))) (Value.ref (own_f7 ((((p3.toUInt32 >>> ((3 : Int32) &&& 31).toUInt32).toInt32) &&& (7 : Int32)) % (5 : Int32)) s_INTERNAL s_CLIENT s_SERVER s_PRODUCER s_CONSUMER)) (nar .boolean (if (p3 &&& (2 : Int32)) = (0 : Int32) then (0 : Int32) else (1 : Int32))) (Value.ref b20) (Value.ref b25) (nar .boolean (if (p3 &&& (4 : Int32)) = (0 : Int32) then (0 : Int32) else (1 : Int32))) q4 q5 T65.heap n0 Z65 rfl G65_traceId rfl G65_id rfl G65_parentId rfl G65_awaited G65_kind rfl G65_shared G65_name rfl G65_remoteService rfl G65_hasTimestamp G65_startMicros G65_durationMicros) hZ (hw _ (List.mem_of_getElem? (i := 76) rfl)) (hw _ (List.mem_of_getElem? (i := 38) rfl)) (by decide) (by decide)) q66a q66c (g := (mkF m 155 #[.val (.int p1), .val (.int p2), .val (.int p3), .val (.long q4), .second, .val (.long q5), .second, .val (.ref b6), .val (.ref b7), .val (.ref b12), .val (.ref b15), .val (.ref b20), .val (.ref b25), .val (.ref b32), .val (.int (if (p3 &&& (1 : Int32)) = (0 : Int32) then (0 : Int32) else (1 : Int32))), .val (.int (if (p3 &&& (2 : Int32)) = (0 : Int32) then (0 : Int32) else (1 : Int32))), .val (.int (if (p3 &&& (4 : Int32)) = (0 : Int32) then (0 : Int32) else (1 : Int32))), .val (.ref (own_f7 ((((p3.toUInt32 >>> ((3 : Int32) &&& 31).toUInt32).toInt32) &&& (7 : Int32)) % (5 : Int32)) s_INTERNAL s_CLIENT s_SERVER s_PRODUCER s_CONSUMER)), .val (.ref b56), .unset] [(.ref b32), (.ref b56)])) rfl (by rw [hml]; rfl) (Steps.refl _) (argsL := [(.ref b32)]) (rest := []) (lenOf pd_0_3 rfl) rfl (by show 2 * 0 + _ ≤ _; exact Nat.le_of_eq rfl) (hb hby at_155) (fun _ _ => ⟨rfl, rfl, (by decide : 15 + 1 ≤ _), (by decide : 47 + 12 ≤ _)⟩)
    dsimp only [Pt.U, Pt.locs, Pt.cells, Pt.slots] at X66 l66 y66 z66 st66 hQ66
    replace y66 : k66 = 16 := y66
    replace z66 : n66 = 59 := z66
    subst y66 z66
    have f67 := (Exa.keep (Exa.ext E56 f57) K65)
    have f68 := (Exa.keep (Exa.ext E56 f58) K65)
    have f69 := (Exa.keep (Exa.ext E56 f59) K65)
    have f70 := (Exa.keep (Exa.ext E56 f60) K65)
    have f71 := (Exa.keep (Exa.ext E56 f61) K65)
    have f72 := (Exa.keep (Exa.ext E56 f62) K65)
    have f73 := (Exa.keep (Exa.ext E56 A32) K65)
    obtain ⟨rfl, N66q, K66, A66, G66_traceId, G66_id, G66_parentId, G66_awaited, G66_kind, G66_shared, G66_service, G66_name, G66_remoteService, G66_hasTimestamp, G66_startMicros, G66_durationMicros⟩ := hQ66
    have N66 : Fr n0 L66 := by rw [l66]; exact Fr.app N65 N66q
    obtain ⟨b66, g66⟩ : ∃ z, z = T65.heap.size := ⟨_, rfl⟩
    rw [← g66] at st66 A66 G66_traceId G66_id G66_parentId G66_awaited G66_kind G66_shared G66_service G66_name G66_remoteService G66_hasTimestamp G66_startMicros G66_durationMicros
    have g_b66 : n0 ≤ b66 := Nat.le_trans Z65 (Nat.le_of_eq g66.symm)
    have sz_b66 : h0.size ≤ b66 := Nat.le_trans KK65.1 (Nat.le_of_eq g66.symm)
    have Z66 : n0 ≤ T66.heap.size := Nat.le_trans Z65 K66.1
    have KK66 := Keep.trans KK65 K66 all0
    obtain ⟨cq74, kq74, q74a, q74b, q74c⟩ := isOf hZ rfl A66
    obtain ⟨_, _, ⟨T74, L74, k74, n74⟩, -, X74, ⟨Lc74, hQ74, l74, y74, z74⟩, st74⟩ := X66.virtualBack hx (y := (⟨"com/example/longpole/longpole/Span", "traceId", "()Ljava/lang/String;"⟩ : MethodName)) (z := (⟨"com/example/longpole/longpole/Span", "traceId", "()Ljava/lang/String;"⟩ : MethodName)) hown (mvT hZ (hw _ (List.mem_of_getElem? (i := 79) rfl))) (mvT hZ (hw _ (List.mem_of_getElem? (i := 80) rfl))) (notFace_of_selects (args := #[]) (mvT hZ (hw _ (List.mem_of_getElem? (i := 82) rfl)))) (mvT hZ (hw _ (List.mem_of_getElem? (i := 82) rfl))) (mvT hZ (hw _ (List.mem_of_getElem? (i := 81) rfl))) (by decide) (backOf (W := 0) (rm11 l Z a0 hw [] b66 (Value.ref b6) T66.heap n0 Z66 G66_traceId rfl) hZ (hw _ (List.mem_of_getElem? (i := 83) rfl)) (hw _ (List.mem_of_getElem? (i := 38) rfl)) (by decide) (by decide)) q74a q74c (g := (mkF m 162 #[.val (.int p1), .val (.int p2), .val (.int p3), .val (.long q4), .second, .val (.long q5), .second, .val (.ref b6), .val (.ref b7), .val (.ref b12), .val (.ref b15), .val (.ref b20), .val (.ref b25), .val (.ref b32), .val (.int (if (p3 &&& (1 : Int32)) = (0 : Int32) then (0 : Int32) else (1 : Int32))), .val (.int (if (p3 &&& (2 : Int32)) = (0 : Int32) then (0 : Int32) else (1 : Int32))), .val (.int (if (p3 &&& (4 : Int32)) = (0 : Int32) then (0 : Int32) else (1 : Int32))), .val (.ref (own_f7 ((((p3.toUInt32 >>> ((3 : Int32) &&& 31).toUInt32).toInt32) &&& (7 : Int32)) % (5 : Int32)) s_INTERNAL s_CLIENT s_SERVER s_PRODUCER s_CONSUMER)), .val (.ref b56), .val (.ref b66)] [(.ref b66)])) rfl (by rw [hml]; rfl) (Steps.refl _) (argsL := []) (rest := []) (lenOf pd_0_4 rfl) rfl (by show 2 * 0 + _ ≤ _; exact Nat.le_of_eq rfl) (hb hby at_162) (fun _ _ => ⟨rfl, rfl, (by decide : 16 + 0 ≤ _), (by decide : 59 + 0 ≤ _)⟩)
    dsimp only [Pt.U, Pt.locs, Pt.cells, Pt.slots] at X74 l74 y74 z74 st74 hQ74
    replace y74 : k74 = 16 := y74
    replace z74 : n74 = 59 := z74
    subst y74 z74
    obtain ⟨rfl, N74q, e74⟩ := hQ74
    have N74 : Fr n0 L74 := by rw [l74]; exact Fr.app N66 N74q
    have pr75 : ∀ t, Steps p.tables e below (T74.setTop (mkF m 165 #[.val (.int p1), .val (.int p2), .val (.int p3), .val (.long q4), .second, .val (.long q5), .second, .val (.ref b6), .val (.ref b7), .val (.ref b12), .val (.ref b15), .val (.ref b20), .val (.ref b25), .val (.ref b32), .val (.int (if (p3 &&& (1 : Int32)) = (0 : Int32) then (0 : Int32) else (1 : Int32))), .val (.int (if (p3 &&& (2 : Int32)) = (0 : Int32) then (0 : Int32) else (1 : Int32))), .val (.int (if (p3 &&& (4 : Int32)) = (0 : Int32) then (0 : Int32) else (1 : Int32))), .val (.ref (own_f7 ((((p3.toUInt32 >>> ((3 : Int32) &&& 31).toUInt32).toInt32) &&& (7 : Int32)) % (5 : Int32)) s_INTERNAL s_CLIENT s_SERVER s_PRODUCER s_CONSUMER)), .val (.ref b56), .val (.ref b66)] [(.ref b6)])) t → Steps p.tables e below (s₁.setTop (entryFrame m #[(.int p1), (.int p2), (.int p3), (.long q4), (.long q5)] maxLocals)) t := by
      intro t k
      refine pr64 t ?_
      show Steps p.tables e below (T56.setTop (mkF m 146 #[.val (.int p1), .val (.int p2), .val (.int p3), .val (.long q4), .second, .val (.long q5), .second, .val (.ref b6), .val (.ref b7), .val (.ref b12), .val (.ref b15), .val (.ref b20), .val (.ref b25), .val (.ref b32), .val (.int (if (p3 &&& (1 : Int32)) = (0 : Int32) then (0 : Int32) else (1 : Int32))), .val (.int (if (p3 &&& (2 : Int32)) = (0 : Int32) then (0 : Int32) else (1 : Int32))), .val (.int (if (p3 &&& (4 : Int32)) = (0 : Int32) then (0 : Int32) else (1 : Int32))), .val (.ref (own_f7 ((((p3.toUInt32 >>> ((3 : Int32) &&& 31).toUInt32).toInt32) &&& (7 : Int32)) % (5 : Int32)) s_INTERNAL s_CLIENT s_SERVER s_PRODUCER s_CONSUMER)), .unset, .unset] [(.long q5), (.long q4), (.int (if (p3 &&& (4 : Int32)) = (0 : Int32) then (0 : Int32) else (1 : Int32))), (.ref b25), (.ref b20), (.ref b15), (.int (if (p3 &&& (2 : Int32)) = (0 : Int32) then (0 : Int32) else (1 : Int32))), (.ref (own_f7 ((((p3.toUInt32 >>> ((3 : Int32) &&& 31).toUInt32).toInt32) &&& (7 : Int32)) % (5 : Int32)) s_INTERNAL s_CLIENT s_SERVER s_PRODUCER s_CONSUMER)), (.int (if (p3 &&& (1 : Int32)) = (0 : Int32) then (0 : Int32) else (1 : Int32))), (.ref b12), (.ref b7), (.ref b6), (.ref b56), (.ref b56)])) _
      refine st65.trans ?_
      show Steps p.tables e below (T65.setTop (mkF m 149 #[.val (.int p1), .val (.int p2), .val (.int p3), .val (.long q4), .second, .val (.long q5), .second, .val (.ref b6), .val (.ref b7), .val (.ref b12), .val (.ref b15), .val (.ref b20), .val (.ref b25), .val (.ref b32), .val (.int (if (p3 &&& (1 : Int32)) = (0 : Int32) then (0 : Int32) else (1 : Int32))), .val (.int (if (p3 &&& (2 : Int32)) = (0 : Int32) then (0 : Int32) else (1 : Int32))), .val (.int (if (p3 &&& (4 : Int32)) = (0 : Int32) then (0 : Int32) else (1 : Int32))), .val (.ref (own_f7 ((((p3.toUInt32 >>> ((3 : Int32) &&& 31).toUInt32).toInt32) &&& (7 : Int32)) % (5 : Int32)) s_INTERNAL s_CLIENT s_SERVER s_PRODUCER s_CONSUMER)), .unset, .unset] [(.ref b56)])) _
      refine XS.astore X65.here hx rfl (hb hby at_149) rfl rfl (l' := #[.val (.int p1), .val (.int p2), .val (.int p3), .val (.long q4), .second, .val (.long q5), .second, .val (.ref b6), .val (.ref b7), .val (.ref b12), .val (.ref b15), .val (.ref b20), .val (.ref b25), .val (.ref b32), .val (.int (if (p3 &&& (1 : Int32)) = (0 : Int32) then (0 : Int32) else (1 : Int32))), .val (.int (if (p3 &&& (2 : Int32)) = (0 : Int32) then (0 : Int32) else (1 : Int32))), .val (.int (if (p3 &&& (4 : Int32)) = (0 : Int32) then (0 : Int32) else (1 : Int32))), .val (.ref (own_f7 ((((p3.toUInt32 >>> ((3 : Int32) &&& 31).toUInt32).toInt32) &&& (7 : Int32)) % (5 : Int32)) s_INTERNAL s_CLIENT s_SERVER s_PRODUCER s_CONSUMER)), .val (.ref b56), .unset]) rfl ?_
      show Steps p.tables e below (T65.setTop (mkF m 151 #[.val (.int p1), .val (.int p2), .val (.int p3), .val (.long q4), .second, .val (.long q5), .second, .val (.ref b6), .val (.ref b7), .val (.ref b12), .val (.ref b15), .val (.ref b20), .val (.ref b25), .val (.ref b32), .val (.int (if (p3 &&& (1 : Int32)) = (0 : Int32) then (0 : Int32) else (1 : Int32))), .val (.int (if (p3 &&& (2 : Int32)) = (0 : Int32) then (0 : Int32) else (1 : Int32))), .val (.int (if (p3 &&& (4 : Int32)) = (0 : Int32) then (0 : Int32) else (1 : Int32))), .val (.ref (own_f7 ((((p3.toUInt32 >>> ((3 : Int32) &&& 31).toUInt32).toInt32) &&& (7 : Int32)) % (5 : Int32)) s_INTERNAL s_CLIENT s_SERVER s_PRODUCER s_CONSUMER)), .val (.ref b56), .unset] [])) _
      refine XS.aload X65.here hx rfl (hb hby at_151) rfl rfl ?_
      show Steps p.tables e below (T65.setTop (mkF m 153 #[.val (.int p1), .val (.int p2), .val (.int p3), .val (.long q4), .second, .val (.long q5), .second, .val (.ref b6), .val (.ref b7), .val (.ref b12), .val (.ref b15), .val (.ref b20), .val (.ref b25), .val (.ref b32), .val (.int (if (p3 &&& (1 : Int32)) = (0 : Int32) then (0 : Int32) else (1 : Int32))), .val (.int (if (p3 &&& (2 : Int32)) = (0 : Int32) then (0 : Int32) else (1 : Int32))), .val (.int (if (p3 &&& (4 : Int32)) = (0 : Int32) then (0 : Int32) else (1 : Int32))), .val (.ref (own_f7 ((((p3.toUInt32 >>> ((3 : Int32) &&& 31).toUInt32).toInt32) &&& (7 : Int32)) % (5 : Int32)) s_INTERNAL s_CLIENT s_SERVER s_PRODUCER s_CONSUMER)), .val (.ref b56), .unset] [(.ref b56)])) _
      refine XS.aload X65.here hx rfl (hb hby at_153) rfl rfl ?_
      show Steps p.tables e below (T65.setTop (mkF m 155 #[.val (.int p1), .val (.int p2), .val (.int p3), .val (.long q4), .second, .val (.long q5), .second, .val (.ref b6), .val (.ref b7), .val (.ref b12), .val (.ref b15), .val (.ref b20), .val (.ref b25), .val (.ref b32), .val (.int (if (p3 &&& (1 : Int32)) = (0 : Int32) then (0 : Int32) else (1 : Int32))), .val (.int (if (p3 &&& (2 : Int32)) = (0 : Int32) then (0 : Int32) else (1 : Int32))), .val (.int (if (p3 &&& (4 : Int32)) = (0 : Int32) then (0 : Int32) else (1 : Int32))), .val (.ref (own_f7 ((((p3.toUInt32 >>> ((3 : Int32) &&& 31).toUInt32).toInt32) &&& (7 : Int32)) % (5 : Int32)) s_INTERNAL s_CLIENT s_SERVER s_PRODUCER s_CONSUMER)), .val (.ref b56), .unset] [(.ref b32), (.ref b56)])) _
      refine st66.trans ?_
      show Steps p.tables e below (T66.setTop (mkF m 158 #[.val (.int p1), .val (.int p2), .val (.int p3), .val (.long q4), .second, .val (.long q5), .second, .val (.ref b6), .val (.ref b7), .val (.ref b12), .val (.ref b15), .val (.ref b20), .val (.ref b25), .val (.ref b32), .val (.int (if (p3 &&& (1 : Int32)) = (0 : Int32) then (0 : Int32) else (1 : Int32))), .val (.int (if (p3 &&& (2 : Int32)) = (0 : Int32) then (0 : Int32) else (1 : Int32))), .val (.int (if (p3 &&& (4 : Int32)) = (0 : Int32) then (0 : Int32) else (1 : Int32))), .val (.ref (own_f7 ((((p3.toUInt32 >>> ((3 : Int32) &&& 31).toUInt32).toInt32) &&& (7 : Int32)) % (5 : Int32)) s_INTERNAL s_CLIENT s_SERVER s_PRODUCER s_CONSUMER)), .val (.ref b56), .unset] [(.ref b66)])) _
      refine XS.astore X66.here hx rfl (hb hby at_158) rfl rfl (l' := #[.val (.int p1), .val (.int p2), .val (.int p3), .val (.long q4), .second, .val (.long q5), .second, .val (.ref b6), .val (.ref b7), .val (.ref b12), .val (.ref b15), .val (.ref b20), .val (.ref b25), .val (.ref b32), .val (.int (if (p3 &&& (1 : Int32)) = (0 : Int32) then (0 : Int32) else (1 : Int32))), .val (.int (if (p3 &&& (2 : Int32)) = (0 : Int32) then (0 : Int32) else (1 : Int32))), .val (.int (if (p3 &&& (4 : Int32)) = (0 : Int32) then (0 : Int32) else (1 : Int32))), .val (.ref (own_f7 ((((p3.toUInt32 >>> ((3 : Int32) &&& 31).toUInt32).toInt32) &&& (7 : Int32)) % (5 : Int32)) s_INTERNAL s_CLIENT s_SERVER s_PRODUCER s_CONSUMER)), .val (.ref b56), .val (.ref b66)]) rfl ?_
      show Steps p.tables e below (T66.setTop (mkF m 160 #[.val (.int p1), .val (.int p2), .val (.int p3), .val (.long q4), .second, .val (.long q5), .second, .val (.ref b6), .val (.ref b7), .val (.ref b12), .val (.ref b15), .val (.ref b20), .val (.ref b25), .val (.ref b32), .val (.int (if (p3 &&& (1 : Int32)) = (0 : Int32) then (0 : Int32) else (1 : Int32))), .val (.int (if (p3 &&& (2 : Int32)) = (0 : Int32) then (0 : Int32) else (1 : Int32))), .val (.int (if (p3 &&& (4 : Int32)) = (0 : Int32) then (0 : Int32) else (1 : Int32))), .val (.ref (own_f7 ((((p3.toUInt32 >>> ((3 : Int32) &&& 31).toUInt32).toInt32) &&& (7 : Int32)) % (5 : Int32)) s_INTERNAL s_CLIENT s_SERVER s_PRODUCER s_CONSUMER)), .val (.ref b56), .val (.ref b66)] [])) _
      refine XS.aload X66.here hx rfl (hb hby at_160) rfl rfl ?_
      show Steps p.tables e below (T66.setTop (mkF m 162 #[.val (.int p1), .val (.int p2), .val (.int p3), .val (.long q4), .second, .val (.long q5), .second, .val (.ref b6), .val (.ref b7), .val (.ref b12), .val (.ref b15), .val (.ref b20), .val (.ref b25), .val (.ref b32), .val (.int (if (p3 &&& (1 : Int32)) = (0 : Int32) then (0 : Int32) else (1 : Int32))), .val (.int (if (p3 &&& (2 : Int32)) = (0 : Int32) then (0 : Int32) else (1 : Int32))), .val (.int (if (p3 &&& (4 : Int32)) = (0 : Int32) then (0 : Int32) else (1 : Int32))), .val (.ref (own_f7 ((((p3.toUInt32 >>> ((3 : Int32) &&& 31).toUInt32).toInt32) &&& (7 : Int32)) % (5 : Int32)) s_INTERNAL s_CLIENT s_SERVER s_PRODUCER s_CONSUMER)), .val (.ref b56), .val (.ref b66)] [(.ref b66)])) _
      refine st74.trans ?_
      exact k
    obtain ⟨cq76, kq76, q76a, q76b, q76c⟩ := isOf hZ e74 A66
    obtain ⟨_, _, ⟨T76, L76, k76, n76⟩, -, X76, ⟨Lc76, hQ76, l76, y76, z76⟩, st76⟩ := X74.virtualBack hx (y := (⟨"com/example/longpole/longpole/Span", "id", "()Ljava/lang/String;"⟩ : MethodName)) (z := (⟨"com/example/longpole/longpole/Span", "id", "()Ljava/lang/String;"⟩ : MethodName)) hown (mvT hZ (hw _ (List.mem_of_getElem? (i := 84) rfl))) (mvT hZ (hw _ (List.mem_of_getElem? (i := 85) rfl))) (notFace_of_selects (args := #[]) (mvT hZ (hw _ (List.mem_of_getElem? (i := 87) rfl)))) (mvT hZ (hw _ (List.mem_of_getElem? (i := 87) rfl))) (mvT hZ (hw _ (List.mem_of_getElem? (i := 86) rfl))) (by decide) (backOf (W := 0) (rm12 l Z a0 hw [] b66 (Value.ref b7) T66.heap n0 Z66 G66_id rfl) hZ (hw _ (List.mem_of_getElem? (i := 88) rfl)) (hw _ (List.mem_of_getElem? (i := 38) rfl)) (by decide) (by decide)) q76a q76c (g := (mkF m 172 #[.val (.int p1), .val (.int p2), .val (.int p3), .val (.long q4), .second, .val (.long q5), .second, .val (.ref b6), .val (.ref b7), .val (.ref b12), .val (.ref b15), .val (.ref b20), .val (.ref b25), .val (.ref b32), .val (.int (if (p3 &&& (1 : Int32)) = (0 : Int32) then (0 : Int32) else (1 : Int32))), .val (.int (if (p3 &&& (2 : Int32)) = (0 : Int32) then (0 : Int32) else (1 : Int32))), .val (.int (if (p3 &&& (4 : Int32)) = (0 : Int32) then (0 : Int32) else (1 : Int32))), .val (.ref (own_f7 ((((p3.toUInt32 >>> ((3 : Int32) &&& 31).toUInt32).toInt32) &&& (7 : Int32)) % (5 : Int32)) s_INTERNAL s_CLIENT s_SERVER s_PRODUCER s_CONSUMER)), .val (.ref b56), .val (.ref b66)] [(.ref b66)])) rfl (by rw [hml]; rfl) (Steps.refl _) (argsL := []) (rest := []) (lenOf pd_0_4 rfl) rfl (by show 2 * 0 + _ ≤ _; exact Nat.le_of_eq rfl) (hb hby at_172) (fun _ _ => ⟨rfl, e74, (by decide : 16 + 0 ≤ _), (by decide : 59 + 0 ≤ _)⟩)
    dsimp only [Pt.U, Pt.locs, Pt.cells, Pt.slots] at X76 l76 y76 z76 st76 hQ76
    replace y76 : k76 = 16 := y76
    replace z76 : n76 = 59 := z76
    subst y76 z76
    obtain ⟨rfl, N76q, e76⟩ := hQ76
    have N76 : Fr n0 L76 := by rw [l76]; exact Fr.app N74 N76q
    obtain ⟨cq77, kq77, q77a, q77b, q77c⟩ := isOf hZ e76 A66
    obtain ⟨_, _, ⟨T77, L77, k77, n77⟩, -, X77, ⟨Lc77, hQ77, l77, y77, z77⟩, st77⟩ := X76.virtualBack hx (y := (⟨"com/example/longpole/longpole/Span", "parentId", "()Ljava/lang/String;"⟩ : MethodName)) (z := (⟨"com/example/longpole/longpole/Span", "parentId", "()Ljava/lang/String;"⟩ : MethodName)) hown (mvT hZ (hw _ (List.mem_of_getElem? (i := 89) rfl))) (mvT hZ (hw _ (List.mem_of_getElem? (i := 90) rfl))) (notFace_of_selects (args := #[]) (mvT hZ (hw _ (List.mem_of_getElem? (i := 92) rfl)))) (mvT hZ (hw _ (List.mem_of_getElem? (i := 92) rfl))) (mvT hZ (hw _ (List.mem_of_getElem? (i := 91) rfl))) (by decide) (backOf (W := 0) (rm13 l Z a0 hw [] b66 (Value.ref b12) T66.heap n0 Z66 G66_parentId rfl) hZ (hw _ (List.mem_of_getElem? (i := 93) rfl)) (hw _ (List.mem_of_getElem? (i := 38) rfl)) (by decide) (by decide)) q77a q77c (g := (mkF m 182 #[.val (.int p1), .val (.int p2), .val (.int p3), .val (.long q4), .second, .val (.long q5), .second, .val (.ref b6), .val (.ref b7), .val (.ref b12), .val (.ref b15), .val (.ref b20), .val (.ref b25), .val (.ref b32), .val (.int (if (p3 &&& (1 : Int32)) = (0 : Int32) then (0 : Int32) else (1 : Int32))), .val (.int (if (p3 &&& (2 : Int32)) = (0 : Int32) then (0 : Int32) else (1 : Int32))), .val (.int (if (p3 &&& (4 : Int32)) = (0 : Int32) then (0 : Int32) else (1 : Int32))), .val (.ref (own_f7 ((((p3.toUInt32 >>> ((3 : Int32) &&& 31).toUInt32).toInt32) &&& (7 : Int32)) % (5 : Int32)) s_INTERNAL s_CLIENT s_SERVER s_PRODUCER s_CONSUMER)), .val (.ref b56), .val (.ref b66)] [(.ref b66)])) rfl (by rw [hml]; rfl) (Steps.refl _) (argsL := []) (rest := []) (lenOf pd_0_4 rfl) rfl (by show 2 * 0 + _ ≤ _; exact Nat.le_of_eq rfl) (hb hby at_182) (fun _ _ => ⟨rfl, e76, (by decide : 16 + 0 ≤ _), (by decide : 59 + 0 ≤ _)⟩)
    dsimp only [Pt.U, Pt.locs, Pt.cells, Pt.slots] at X77 l77 y77 z77 st77 hQ77
    replace y77 : k77 = 16 := y77
    replace z77 : n77 = 59 := z77
    subst y77 z77
    obtain ⟨rfl, N77q, e77⟩ := hQ77
    have N77 : Fr n0 L77 := by rw [l77]; exact Fr.app N76 N77q
    have pr78 : ∀ t, Steps p.tables e below (T77.setTop (mkF m 185 #[.val (.int p1), .val (.int p2), .val (.int p3), .val (.long q4), .second, .val (.long q5), .second, .val (.ref b6), .val (.ref b7), .val (.ref b12), .val (.ref b15), .val (.ref b20), .val (.ref b25), .val (.ref b32), .val (.int (if (p3 &&& (1 : Int32)) = (0 : Int32) then (0 : Int32) else (1 : Int32))), .val (.int (if (p3 &&& (2 : Int32)) = (0 : Int32) then (0 : Int32) else (1 : Int32))), .val (.int (if (p3 &&& (4 : Int32)) = (0 : Int32) then (0 : Int32) else (1 : Int32))), .val (.ref (own_f7 ((((p3.toUInt32 >>> ((3 : Int32) &&& 31).toUInt32).toInt32) &&& (7 : Int32)) % (5 : Int32)) s_INTERNAL s_CLIENT s_SERVER s_PRODUCER s_CONSUMER)), .val (.ref b56), .val (.ref b66)] [(.ref b12)])) t → Steps p.tables e below (s₁.setTop (entryFrame m #[(.int p1), (.int p2), (.int p3), (.long q4), (.long q5)] maxLocals)) t := by
      intro t k
      refine pr75 t ?_
      show Steps p.tables e below (T74.setTop (mkF m 165 #[.val (.int p1), .val (.int p2), .val (.int p3), .val (.long q4), .second, .val (.long q5), .second, .val (.ref b6), .val (.ref b7), .val (.ref b12), .val (.ref b15), .val (.ref b20), .val (.ref b25), .val (.ref b32), .val (.int (if (p3 &&& (1 : Int32)) = (0 : Int32) then (0 : Int32) else (1 : Int32))), .val (.int (if (p3 &&& (2 : Int32)) = (0 : Int32) then (0 : Int32) else (1 : Int32))), .val (.int (if (p3 &&& (4 : Int32)) = (0 : Int32) then (0 : Int32) else (1 : Int32))), .val (.ref (own_f7 ((((p3.toUInt32 >>> ((3 : Int32) &&& 31).toUInt32).toInt32) &&& (7 : Int32)) % (5 : Int32)) s_INTERNAL s_CLIENT s_SERVER s_PRODUCER s_CONSUMER)), .val (.ref b56), .val (.ref b66)] [(.ref b6)])) _
      refine XS.aload X74.here hx rfl (hb hby at_165) rfl rfl ?_
      show Steps p.tables e below (T74.setTop (mkF m 167 #[.val (.int p1), .val (.int p2), .val (.int p3), .val (.long q4), .second, .val (.long q5), .second, .val (.ref b6), .val (.ref b7), .val (.ref b12), .val (.ref b15), .val (.ref b20), .val (.ref b25), .val (.ref b32), .val (.int (if (p3 &&& (1 : Int32)) = (0 : Int32) then (0 : Int32) else (1 : Int32))), .val (.int (if (p3 &&& (2 : Int32)) = (0 : Int32) then (0 : Int32) else (1 : Int32))), .val (.int (if (p3 &&& (4 : Int32)) = (0 : Int32) then (0 : Int32) else (1 : Int32))), .val (.ref (own_f7 ((((p3.toUInt32 >>> ((3 : Int32) &&& 31).toUInt32).toInt32) &&& (7 : Int32)) % (5 : Int32)) s_INTERNAL s_CLIENT s_SERVER s_PRODUCER s_CONSUMER)), .val (.ref b56), .val (.ref b66)] [(.ref b6), (.ref b6)])) _
      refine Jvm.RoadKit.acmp (g := (mkF m 167 #[.val (.int p1), .val (.int p2), .val (.int p3), .val (.long q4), .second, .val (.long q5), .second, .val (.ref b6), .val (.ref b7), .val (.ref b12), .val (.ref b15), .val (.ref b20), .val (.ref b25), .val (.ref b32), .val (.int (if (p3 &&& (1 : Int32)) = (0 : Int32) then (0 : Int32) else (1 : Int32))), .val (.int (if (p3 &&& (2 : Int32)) = (0 : Int32) then (0 : Int32) else (1 : Int32))), .val (.int (if (p3 &&& (4 : Int32)) = (0 : Int32) then (0 : Int32) else (1 : Int32))), .val (.ref (own_f7 ((((p3.toUInt32 >>> ((3 : Int32) &&& 31).toUInt32).toInt32) &&& (7 : Int32)) % (5 : Int32)) s_INTERNAL s_CLIENT s_SERVER s_PRODUCER s_CONSUMER)), .val (.ref b56), .val (.ref b66)] [(.ref b6), (.ref b6)])) X74 hx rfl rfl rfl (pc0 := 167) (pc' := 170) (same := true) rfl (hb hby at_167) rfl (decide_eq_true rfl) (by decide) (by decide) ?_
      show Steps p.tables e below (T74.setTop (mkF m 170 #[.val (.int p1), .val (.int p2), .val (.int p3), .val (.long q4), .second, .val (.long q5), .second, .val (.ref b6), .val (.ref b7), .val (.ref b12), .val (.ref b15), .val (.ref b20), .val (.ref b25), .val (.ref b32), .val (.int (if (p3 &&& (1 : Int32)) = (0 : Int32) then (0 : Int32) else (1 : Int32))), .val (.int (if (p3 &&& (2 : Int32)) = (0 : Int32) then (0 : Int32) else (1 : Int32))), .val (.int (if (p3 &&& (4 : Int32)) = (0 : Int32) then (0 : Int32) else (1 : Int32))), .val (.ref (own_f7 ((((p3.toUInt32 >>> ((3 : Int32) &&& 31).toUInt32).toInt32) &&& (7 : Int32)) % (5 : Int32)) s_INTERNAL s_CLIENT s_SERVER s_PRODUCER s_CONSUMER)), .val (.ref b56), .val (.ref b66)] [])) _
      refine XS.aload X74.here hx rfl (hb hby at_170) rfl rfl ?_
      show Steps p.tables e below (T74.setTop (mkF m 172 #[.val (.int p1), .val (.int p2), .val (.int p3), .val (.long q4), .second, .val (.long q5), .second, .val (.ref b6), .val (.ref b7), .val (.ref b12), .val (.ref b15), .val (.ref b20), .val (.ref b25), .val (.ref b32), .val (.int (if (p3 &&& (1 : Int32)) = (0 : Int32) then (0 : Int32) else (1 : Int32))), .val (.int (if (p3 &&& (2 : Int32)) = (0 : Int32) then (0 : Int32) else (1 : Int32))), .val (.int (if (p3 &&& (4 : Int32)) = (0 : Int32) then (0 : Int32) else (1 : Int32))), .val (.ref (own_f7 ((((p3.toUInt32 >>> ((3 : Int32) &&& 31).toUInt32).toInt32) &&& (7 : Int32)) % (5 : Int32)) s_INTERNAL s_CLIENT s_SERVER s_PRODUCER s_CONSUMER)), .val (.ref b56), .val (.ref b66)] [(.ref b66)])) _
      refine st76.trans ?_
      show Steps p.tables e below (T76.setTop (mkF m 175 #[.val (.int p1), .val (.int p2), .val (.int p3), .val (.long q4), .second, .val (.long q5), .second, .val (.ref b6), .val (.ref b7), .val (.ref b12), .val (.ref b15), .val (.ref b20), .val (.ref b25), .val (.ref b32), .val (.int (if (p3 &&& (1 : Int32)) = (0 : Int32) then (0 : Int32) else (1 : Int32))), .val (.int (if (p3 &&& (2 : Int32)) = (0 : Int32) then (0 : Int32) else (1 : Int32))), .val (.int (if (p3 &&& (4 : Int32)) = (0 : Int32) then (0 : Int32) else (1 : Int32))), .val (.ref (own_f7 ((((p3.toUInt32 >>> ((3 : Int32) &&& 31).toUInt32).toInt32) &&& (7 : Int32)) % (5 : Int32)) s_INTERNAL s_CLIENT s_SERVER s_PRODUCER s_CONSUMER)), .val (.ref b56), .val (.ref b66)] [(.ref b7)])) _
      refine XS.aload X76.here hx rfl (hb hby at_175) rfl rfl ?_
      show Steps p.tables e below (T76.setTop (mkF m 177 #[.val (.int p1), .val (.int p2), .val (.int p3), .val (.long q4), .second, .val (.long q5), .second, .val (.ref b6), .val (.ref b7), .val (.ref b12), .val (.ref b15), .val (.ref b20), .val (.ref b25), .val (.ref b32), .val (.int (if (p3 &&& (1 : Int32)) = (0 : Int32) then (0 : Int32) else (1 : Int32))), .val (.int (if (p3 &&& (2 : Int32)) = (0 : Int32) then (0 : Int32) else (1 : Int32))), .val (.int (if (p3 &&& (4 : Int32)) = (0 : Int32) then (0 : Int32) else (1 : Int32))), .val (.ref (own_f7 ((((p3.toUInt32 >>> ((3 : Int32) &&& 31).toUInt32).toInt32) &&& (7 : Int32)) % (5 : Int32)) s_INTERNAL s_CLIENT s_SERVER s_PRODUCER s_CONSUMER)), .val (.ref b56), .val (.ref b66)] [(.ref b7), (.ref b7)])) _
      refine Jvm.RoadKit.acmp (g := (mkF m 177 #[.val (.int p1), .val (.int p2), .val (.int p3), .val (.long q4), .second, .val (.long q5), .second, .val (.ref b6), .val (.ref b7), .val (.ref b12), .val (.ref b15), .val (.ref b20), .val (.ref b25), .val (.ref b32), .val (.int (if (p3 &&& (1 : Int32)) = (0 : Int32) then (0 : Int32) else (1 : Int32))), .val (.int (if (p3 &&& (2 : Int32)) = (0 : Int32) then (0 : Int32) else (1 : Int32))), .val (.int (if (p3 &&& (4 : Int32)) = (0 : Int32) then (0 : Int32) else (1 : Int32))), .val (.ref (own_f7 ((((p3.toUInt32 >>> ((3 : Int32) &&& 31).toUInt32).toInt32) &&& (7 : Int32)) % (5 : Int32)) s_INTERNAL s_CLIENT s_SERVER s_PRODUCER s_CONSUMER)), .val (.ref b56), .val (.ref b66)] [(.ref b7), (.ref b7)])) X76 hx rfl rfl rfl (pc0 := 177) (pc' := 180) (same := true) rfl (hb hby at_177) rfl (decide_eq_true rfl) (by decide) (by decide) ?_
      show Steps p.tables e below (T76.setTop (mkF m 180 #[.val (.int p1), .val (.int p2), .val (.int p3), .val (.long q4), .second, .val (.long q5), .second, .val (.ref b6), .val (.ref b7), .val (.ref b12), .val (.ref b15), .val (.ref b20), .val (.ref b25), .val (.ref b32), .val (.int (if (p3 &&& (1 : Int32)) = (0 : Int32) then (0 : Int32) else (1 : Int32))), .val (.int (if (p3 &&& (2 : Int32)) = (0 : Int32) then (0 : Int32) else (1 : Int32))), .val (.int (if (p3 &&& (4 : Int32)) = (0 : Int32) then (0 : Int32) else (1 : Int32))), .val (.ref (own_f7 ((((p3.toUInt32 >>> ((3 : Int32) &&& 31).toUInt32).toInt32) &&& (7 : Int32)) % (5 : Int32)) s_INTERNAL s_CLIENT s_SERVER s_PRODUCER s_CONSUMER)), .val (.ref b56), .val (.ref b66)] [])) _
      refine XS.aload X76.here hx rfl (hb hby at_180) rfl rfl ?_
      show Steps p.tables e below (T76.setTop (mkF m 182 #[.val (.int p1), .val (.int p2), .val (.int p3), .val (.long q4), .second, .val (.long q5), .second, .val (.ref b6), .val (.ref b7), .val (.ref b12), .val (.ref b15), .val (.ref b20), .val (.ref b25), .val (.ref b32), .val (.int (if (p3 &&& (1 : Int32)) = (0 : Int32) then (0 : Int32) else (1 : Int32))), .val (.int (if (p3 &&& (2 : Int32)) = (0 : Int32) then (0 : Int32) else (1 : Int32))), .val (.int (if (p3 &&& (4 : Int32)) = (0 : Int32) then (0 : Int32) else (1 : Int32))), .val (.ref (own_f7 ((((p3.toUInt32 >>> ((3 : Int32) &&& 31).toUInt32).toInt32) &&& (7 : Int32)) % (5 : Int32)) s_INTERNAL s_CLIENT s_SERVER s_PRODUCER s_CONSUMER)), .val (.ref b56), .val (.ref b66)] [(.ref b66)])) _
      refine st77.trans ?_
      exact k
    obtain ⟨cq79, kq79, q79a, q79b, q79c⟩ := isOf hZ e77 A66
    obtain ⟨_, _, ⟨T79, L79, k79, n79⟩, -, X79, ⟨Lc79, hQ79, l79, y79, z79⟩, st79⟩ := X77.virtualBack hx (y := (⟨"com/example/longpole/longpole/Span", "awaited", "()Z"⟩ : MethodName)) (z := (⟨"com/example/longpole/longpole/Span", "awaited", "()Z"⟩ : MethodName)) hown (mvT hZ (hw _ (List.mem_of_getElem? (i := 94) rfl))) (mvT hZ (hw _ (List.mem_of_getElem? (i := 95) rfl))) (notFace_of_selects (args := #[]) (mvT hZ (hw _ (List.mem_of_getElem? (i := 97) rfl)))) (mvT hZ (hw _ (List.mem_of_getElem? (i := 97) rfl))) (mvT hZ (hw _ (List.mem_of_getElem? (i := 96) rfl))) (by decide) (backOf (W := 0) (rm14 l Z a0 hw [] b66 (nar .boolean (nar .boolean (if (p3 &&& (1 : Int32)) = (0 : Int32) then (0 : Int32) else (1 : Int32)))) T66.heap n0 Z66 G66_awaited) hZ (hw _ (List.mem_of_getElem? (i := 98) rfl)) (hw _ (List.mem_of_getElem? (i := 38) rfl)) (by decide) (by decide)) q79a q79c (g := (mkF m 192 #[.val (.int p1), .val (.int p2), .val (.int p3), .val (.long q4), .second, .val (.long q5), .second, .val (.ref b6), .val (.ref b7), .val (.ref b12), .val (.ref b15), .val (.ref b20), .val (.ref b25), .val (.ref b32), .val (.int (if (p3 &&& (1 : Int32)) = (0 : Int32) then (0 : Int32) else (1 : Int32))), .val (.int (if (p3 &&& (2 : Int32)) = (0 : Int32) then (0 : Int32) else (1 : Int32))), .val (.int (if (p3 &&& (4 : Int32)) = (0 : Int32) then (0 : Int32) else (1 : Int32))), .val (.ref (own_f7 ((((p3.toUInt32 >>> ((3 : Int32) &&& 31).toUInt32).toInt32) &&& (7 : Int32)) % (5 : Int32)) s_INTERNAL s_CLIENT s_SERVER s_PRODUCER s_CONSUMER)), .val (.ref b56), .val (.ref b66)] [(.ref b66)])) rfl (by rw [hml]; rfl) (Steps.refl _) (argsL := []) (rest := []) (lenOf pd_0_5 rfl) rfl (by show 2 * 0 + _ ≤ _; exact Nat.le_of_eq rfl) (hb hby at_192) (fun _ _ => ⟨rfl, e77, (by decide : 16 + 0 ≤ _), (by decide : 59 + 0 ≤ _)⟩)
    dsimp only [Pt.U, Pt.locs, Pt.cells, Pt.slots] at X79 l79 y79 z79 st79 hQ79
    replace y79 : k79 = 16 := y79
    replace z79 : n79 = 59 := z79
    subst y79 z79
    obtain ⟨rfl, N79q, e79⟩ := hQ79
    have N79 : Fr n0 L79 := by rw [l79]; exact Fr.app N77 N79q
    obtain ⟨cq80, kq80, q80a, q80b, q80c⟩ := isOf hZ e79 A66
    obtain ⟨_, _, ⟨T80, L80, k80, n80⟩, -, X80, ⟨Lc80, hQ80, l80, y80, z80⟩, st80⟩ := X79.virtualBack hx (y := (⟨"com/example/longpole/longpole/Span", "kind", "()Lcom/example/longpole/longpole/Span$Kind;"⟩ : MethodName)) (z := (⟨"com/example/longpole/longpole/Span", "kind", "()Lcom/example/longpole/longpole/Span$Kind;"⟩ : MethodName)) hown (mvT hZ (hw _ (List.mem_of_getElem? (i := 99) rfl))) (mvT hZ (hw _ (List.mem_of_getElem? (i := 100) rfl))) (notFace_of_selects (args := #[]) (mvT hZ (hw _ (List.mem_of_getElem? (i := 102) rfl)))) (mvT hZ (hw _ (List.mem_of_getElem? (i := 102) rfl))) (mvT hZ (hw _ (List.mem_of_getElem? (i := 101) rfl))) (by decide) (backOf (W := 0) (rm15 l Z a0 hw [] b66 (Value.ref (own_f7 ((((p3.toUInt32 >>> ((3 : Int32) &&& 31).toUInt32).toInt32) &&& (7 : Int32)) % (5 : Int32)) s_INTERNAL s_CLIENT s_SERVER s_PRODUCER s_CONSUMER)) T66.heap n0 Z66 G66_kind rfl) hZ (hw _ (List.mem_of_getElem? (i := 103) rfl)) (hw _ (List.mem_of_getElem? (i := 38) rfl)) (by decide) (by decide)) q80a q80c (g := (mkF m 202 #[.val (.int p1), .val (.int p2), .val (.int p3), .val (.long q4), .second, .val (.long q5), .second, .val (.ref b6), .val (.ref b7), .val (.ref b12), .val (.ref b15), .val (.ref b20), .val (.ref b25), .val (.ref b32), .val (.int (if (p3 &&& (1 : Int32)) = (0 : Int32) then (0 : Int32) else (1 : Int32))), .val (.int (if (p3 &&& (2 : Int32)) = (0 : Int32) then (0 : Int32) else (1 : Int32))), .val (.int (if (p3 &&& (4 : Int32)) = (0 : Int32) then (0 : Int32) else (1 : Int32))), .val (.ref (own_f7 ((((p3.toUInt32 >>> ((3 : Int32) &&& 31).toUInt32).toInt32) &&& (7 : Int32)) % (5 : Int32)) s_INTERNAL s_CLIENT s_SERVER s_PRODUCER s_CONSUMER)), .val (.ref b56), .val (.ref b66)] [(.ref b66)])) rfl (by rw [hml]; rfl) (Steps.refl _) (argsL := []) (rest := []) (lenOf pd_0_6 rfl) rfl (by show 2 * 0 + _ ≤ _; exact Nat.le_of_eq rfl) (hb hby at_202) (fun _ _ => ⟨rfl, e79, (by decide : 16 + 0 ≤ _), (by decide : 59 + 0 ≤ _)⟩)
    dsimp only [Pt.U, Pt.locs, Pt.cells, Pt.slots] at X80 l80 y80 z80 st80 hQ80
    replace y80 : k80 = 16 := y80
    replace z80 : n80 = 59 := z80
    subst y80 z80
    obtain ⟨rfl, N80q, e80⟩ := hQ80
    have N80 : Fr n0 L80 := by rw [l80]; exact Fr.app N79 N80q
    have pr81 : ∀ t, Steps p.tables e below (T80.setTop (mkF m 205 #[.val (.int p1), .val (.int p2), .val (.int p3), .val (.long q4), .second, .val (.long q5), .second, .val (.ref b6), .val (.ref b7), .val (.ref b12), .val (.ref b15), .val (.ref b20), .val (.ref b25), .val (.ref b32), .val (.int (if (p3 &&& (1 : Int32)) = (0 : Int32) then (0 : Int32) else (1 : Int32))), .val (.int (if (p3 &&& (2 : Int32)) = (0 : Int32) then (0 : Int32) else (1 : Int32))), .val (.int (if (p3 &&& (4 : Int32)) = (0 : Int32) then (0 : Int32) else (1 : Int32))), .val (.ref (own_f7 ((((p3.toUInt32 >>> ((3 : Int32) &&& 31).toUInt32).toInt32) &&& (7 : Int32)) % (5 : Int32)) s_INTERNAL s_CLIENT s_SERVER s_PRODUCER s_CONSUMER)), .val (.ref b56), .val (.ref b66)] [(.ref (own_f7 ((((p3.toUInt32 >>> ((3 : Int32) &&& 31).toUInt32).toInt32) &&& (7 : Int32)) % (5 : Int32)) s_INTERNAL s_CLIENT s_SERVER s_PRODUCER s_CONSUMER))])) t → Steps p.tables e below (s₁.setTop (entryFrame m #[(.int p1), (.int p2), (.int p3), (.long q4), (.long q5)] maxLocals)) t := by
      intro t k
      refine pr78 t ?_
      show Steps p.tables e below (T77.setTop (mkF m 185 #[.val (.int p1), .val (.int p2), .val (.int p3), .val (.long q4), .second, .val (.long q5), .second, .val (.ref b6), .val (.ref b7), .val (.ref b12), .val (.ref b15), .val (.ref b20), .val (.ref b25), .val (.ref b32), .val (.int (if (p3 &&& (1 : Int32)) = (0 : Int32) then (0 : Int32) else (1 : Int32))), .val (.int (if (p3 &&& (2 : Int32)) = (0 : Int32) then (0 : Int32) else (1 : Int32))), .val (.int (if (p3 &&& (4 : Int32)) = (0 : Int32) then (0 : Int32) else (1 : Int32))), .val (.ref (own_f7 ((((p3.toUInt32 >>> ((3 : Int32) &&& 31).toUInt32).toInt32) &&& (7 : Int32)) % (5 : Int32)) s_INTERNAL s_CLIENT s_SERVER s_PRODUCER s_CONSUMER)), .val (.ref b56), .val (.ref b66)] [(.ref b12)])) _
      refine XS.aload X77.here hx rfl (hb hby at_185) rfl rfl ?_
      show Steps p.tables e below (T77.setTop (mkF m 187 #[.val (.int p1), .val (.int p2), .val (.int p3), .val (.long q4), .second, .val (.long q5), .second, .val (.ref b6), .val (.ref b7), .val (.ref b12), .val (.ref b15), .val (.ref b20), .val (.ref b25), .val (.ref b32), .val (.int (if (p3 &&& (1 : Int32)) = (0 : Int32) then (0 : Int32) else (1 : Int32))), .val (.int (if (p3 &&& (2 : Int32)) = (0 : Int32) then (0 : Int32) else (1 : Int32))), .val (.int (if (p3 &&& (4 : Int32)) = (0 : Int32) then (0 : Int32) else (1 : Int32))), .val (.ref (own_f7 ((((p3.toUInt32 >>> ((3 : Int32) &&& 31).toUInt32).toInt32) &&& (7 : Int32)) % (5 : Int32)) s_INTERNAL s_CLIENT s_SERVER s_PRODUCER s_CONSUMER)), .val (.ref b56), .val (.ref b66)] [(.ref b12), (.ref b12)])) _
      refine Jvm.RoadKit.acmp (g := (mkF m 187 #[.val (.int p1), .val (.int p2), .val (.int p3), .val (.long q4), .second, .val (.long q5), .second, .val (.ref b6), .val (.ref b7), .val (.ref b12), .val (.ref b15), .val (.ref b20), .val (.ref b25), .val (.ref b32), .val (.int (if (p3 &&& (1 : Int32)) = (0 : Int32) then (0 : Int32) else (1 : Int32))), .val (.int (if (p3 &&& (2 : Int32)) = (0 : Int32) then (0 : Int32) else (1 : Int32))), .val (.int (if (p3 &&& (4 : Int32)) = (0 : Int32) then (0 : Int32) else (1 : Int32))), .val (.ref (own_f7 ((((p3.toUInt32 >>> ((3 : Int32) &&& 31).toUInt32).toInt32) &&& (7 : Int32)) % (5 : Int32)) s_INTERNAL s_CLIENT s_SERVER s_PRODUCER s_CONSUMER)), .val (.ref b56), .val (.ref b66)] [(.ref b12), (.ref b12)])) X77 hx rfl rfl rfl (pc0 := 187) (pc' := 190) (same := true) rfl (hb hby at_187) rfl (decide_eq_true rfl) (by decide) (by decide) ?_
      show Steps p.tables e below (T77.setTop (mkF m 190 #[.val (.int p1), .val (.int p2), .val (.int p3), .val (.long q4), .second, .val (.long q5), .second, .val (.ref b6), .val (.ref b7), .val (.ref b12), .val (.ref b15), .val (.ref b20), .val (.ref b25), .val (.ref b32), .val (.int (if (p3 &&& (1 : Int32)) = (0 : Int32) then (0 : Int32) else (1 : Int32))), .val (.int (if (p3 &&& (2 : Int32)) = (0 : Int32) then (0 : Int32) else (1 : Int32))), .val (.int (if (p3 &&& (4 : Int32)) = (0 : Int32) then (0 : Int32) else (1 : Int32))), .val (.ref (own_f7 ((((p3.toUInt32 >>> ((3 : Int32) &&& 31).toUInt32).toInt32) &&& (7 : Int32)) % (5 : Int32)) s_INTERNAL s_CLIENT s_SERVER s_PRODUCER s_CONSUMER)), .val (.ref b56), .val (.ref b66)] [])) _
      refine XS.aload X77.here hx rfl (hb hby at_190) rfl rfl ?_
      show Steps p.tables e below (T77.setTop (mkF m 192 #[.val (.int p1), .val (.int p2), .val (.int p3), .val (.long q4), .second, .val (.long q5), .second, .val (.ref b6), .val (.ref b7), .val (.ref b12), .val (.ref b15), .val (.ref b20), .val (.ref b25), .val (.ref b32), .val (.int (if (p3 &&& (1 : Int32)) = (0 : Int32) then (0 : Int32) else (1 : Int32))), .val (.int (if (p3 &&& (2 : Int32)) = (0 : Int32) then (0 : Int32) else (1 : Int32))), .val (.int (if (p3 &&& (4 : Int32)) = (0 : Int32) then (0 : Int32) else (1 : Int32))), .val (.ref (own_f7 ((((p3.toUInt32 >>> ((3 : Int32) &&& 31).toUInt32).toInt32) &&& (7 : Int32)) % (5 : Int32)) s_INTERNAL s_CLIENT s_SERVER s_PRODUCER s_CONSUMER)), .val (.ref b56), .val (.ref b66)] [(.ref b66)])) _
      refine st79.trans ?_
      show Steps p.tables e below (T79.setTop (mkF m 195 #[.val (.int p1), .val (.int p2), .val (.int p3), .val (.long q4), .second, .val (.long q5), .second, .val (.ref b6), .val (.ref b7), .val (.ref b12), .val (.ref b15), .val (.ref b20), .val (.ref b25), .val (.ref b32), .val (.int (if (p3 &&& (1 : Int32)) = (0 : Int32) then (0 : Int32) else (1 : Int32))), .val (.int (if (p3 &&& (2 : Int32)) = (0 : Int32) then (0 : Int32) else (1 : Int32))), .val (.int (if (p3 &&& (4 : Int32)) = (0 : Int32) then (0 : Int32) else (1 : Int32))), .val (.ref (own_f7 ((((p3.toUInt32 >>> ((3 : Int32) &&& 31).toUInt32).toInt32) &&& (7 : Int32)) % (5 : Int32)) s_INTERNAL s_CLIENT s_SERVER s_PRODUCER s_CONSUMER)), .val (.ref b56), .val (.ref b66)] [(.int (nar .boolean (nar .boolean (nar .boolean (if (p3 &&& (1 : Int32)) = (0 : Int32) then (0 : Int32) else (1 : Int32))))))])) _
      refine XS.iload X79.here hx rfl (hb hby at_195) rfl ?_
      show Steps p.tables e below (T79.setTop (mkF m 197 #[.val (.int p1), .val (.int p2), .val (.int p3), .val (.long q4), .second, .val (.long q5), .second, .val (.ref b6), .val (.ref b7), .val (.ref b12), .val (.ref b15), .val (.ref b20), .val (.ref b25), .val (.ref b32), .val (.int (if (p3 &&& (1 : Int32)) = (0 : Int32) then (0 : Int32) else (1 : Int32))), .val (.int (if (p3 &&& (2 : Int32)) = (0 : Int32) then (0 : Int32) else (1 : Int32))), .val (.int (if (p3 &&& (4 : Int32)) = (0 : Int32) then (0 : Int32) else (1 : Int32))), .val (.ref (own_f7 ((((p3.toUInt32 >>> ((3 : Int32) &&& 31).toUInt32).toInt32) &&& (7 : Int32)) % (5 : Int32)) s_INTERNAL s_CLIENT s_SERVER s_PRODUCER s_CONSUMER)), .val (.ref b56), .val (.ref b66)] [(.int (if (p3 &&& (1 : Int32)) = (0 : Int32) then (0 : Int32) else (1 : Int32))), (.int (nar .boolean (nar .boolean (nar .boolean (if (p3 &&& (1 : Int32)) = (0 : Int32) then (0 : Int32) else (1 : Int32))))))])) _
      refine XS.icmpNo X79.here hx rfl (hb hby at_197) rfl (teq (by simp only [own_narN, own_narIf] : (nar .boolean (nar .boolean (nar .boolean (if (p3 &&& (1 : Int32)) = (0 : Int32) then (0 : Int32) else (1 : Int32))))) = (if (p3 &&& (1 : Int32)) = (0 : Int32) then (0 : Int32) else (1 : Int32)))).2 ?_
      show Steps p.tables e below (T79.setTop (mkF m 200 #[.val (.int p1), .val (.int p2), .val (.int p3), .val (.long q4), .second, .val (.long q5), .second, .val (.ref b6), .val (.ref b7), .val (.ref b12), .val (.ref b15), .val (.ref b20), .val (.ref b25), .val (.ref b32), .val (.int (if (p3 &&& (1 : Int32)) = (0 : Int32) then (0 : Int32) else (1 : Int32))), .val (.int (if (p3 &&& (2 : Int32)) = (0 : Int32) then (0 : Int32) else (1 : Int32))), .val (.int (if (p3 &&& (4 : Int32)) = (0 : Int32) then (0 : Int32) else (1 : Int32))), .val (.ref (own_f7 ((((p3.toUInt32 >>> ((3 : Int32) &&& 31).toUInt32).toInt32) &&& (7 : Int32)) % (5 : Int32)) s_INTERNAL s_CLIENT s_SERVER s_PRODUCER s_CONSUMER)), .val (.ref b56), .val (.ref b66)] [])) _
      refine XS.aload X79.here hx rfl (hb hby at_200) rfl rfl ?_
      show Steps p.tables e below (T79.setTop (mkF m 202 #[.val (.int p1), .val (.int p2), .val (.int p3), .val (.long q4), .second, .val (.long q5), .second, .val (.ref b6), .val (.ref b7), .val (.ref b12), .val (.ref b15), .val (.ref b20), .val (.ref b25), .val (.ref b32), .val (.int (if (p3 &&& (1 : Int32)) = (0 : Int32) then (0 : Int32) else (1 : Int32))), .val (.int (if (p3 &&& (2 : Int32)) = (0 : Int32) then (0 : Int32) else (1 : Int32))), .val (.int (if (p3 &&& (4 : Int32)) = (0 : Int32) then (0 : Int32) else (1 : Int32))), .val (.ref (own_f7 ((((p3.toUInt32 >>> ((3 : Int32) &&& 31).toUInt32).toInt32) &&& (7 : Int32)) % (5 : Int32)) s_INTERNAL s_CLIENT s_SERVER s_PRODUCER s_CONSUMER)), .val (.ref b56), .val (.ref b66)] [(.ref b66)])) _
      refine st80.trans ?_
      exact k
    obtain ⟨cq82, kq82, q82a, q82b, q82c⟩ := isOf hZ e80 A66
    obtain ⟨_, _, ⟨T82, L82, k82, n82⟩, -, X82, ⟨Lc82, hQ82, l82, y82, z82⟩, st82⟩ := X80.virtualBack hx (y := (⟨"com/example/longpole/longpole/Span", "shared", "()Z"⟩ : MethodName)) (z := (⟨"com/example/longpole/longpole/Span", "shared", "()Z"⟩ : MethodName)) hown (mvT hZ (hw _ (List.mem_of_getElem? (i := 104) rfl))) (mvT hZ (hw _ (List.mem_of_getElem? (i := 105) rfl))) (notFace_of_selects (args := #[]) (mvT hZ (hw _ (List.mem_of_getElem? (i := 107) rfl)))) (mvT hZ (hw _ (List.mem_of_getElem? (i := 107) rfl))) (mvT hZ (hw _ (List.mem_of_getElem? (i := 106) rfl))) (by decide) (backOf (W := 0) (rm16 l Z a0 hw [] b66 (nar .boolean (nar .boolean (if (p3 &&& (2 : Int32)) = (0 : Int32) then (0 : Int32) else (1 : Int32)))) T66.heap n0 Z66 G66_shared) hZ (hw _ (List.mem_of_getElem? (i := 108) rfl)) (hw _ (List.mem_of_getElem? (i := 38) rfl)) (by decide) (by decide)) q82a q82c (g := (mkF m 212 #[.val (.int p1), .val (.int p2), .val (.int p3), .val (.long q4), .second, .val (.long q5), .second, .val (.ref b6), .val (.ref b7), .val (.ref b12), .val (.ref b15), .val (.ref b20), .val (.ref b25), .val (.ref b32), .val (.int (if (p3 &&& (1 : Int32)) = (0 : Int32) then (0 : Int32) else (1 : Int32))), .val (.int (if (p3 &&& (2 : Int32)) = (0 : Int32) then (0 : Int32) else (1 : Int32))), .val (.int (if (p3 &&& (4 : Int32)) = (0 : Int32) then (0 : Int32) else (1 : Int32))), .val (.ref (own_f7 ((((p3.toUInt32 >>> ((3 : Int32) &&& 31).toUInt32).toInt32) &&& (7 : Int32)) % (5 : Int32)) s_INTERNAL s_CLIENT s_SERVER s_PRODUCER s_CONSUMER)), .val (.ref b56), .val (.ref b66)] [(.ref b66)])) rfl (by rw [hml]; rfl) (Steps.refl _) (argsL := []) (rest := []) (lenOf pd_0_5 rfl) rfl (by show 2 * 0 + _ ≤ _; exact Nat.le_of_eq rfl) (hb hby at_212) (fun _ _ => ⟨rfl, e80, (by decide : 16 + 0 ≤ _), (by decide : 59 + 0 ≤ _)⟩)
    dsimp only [Pt.U, Pt.locs, Pt.cells, Pt.slots] at X82 l82 y82 z82 st82 hQ82
    replace y82 : k82 = 16 := y82
    replace z82 : n82 = 59 := z82
    subst y82 z82
    obtain ⟨rfl, N82q, e82⟩ := hQ82
    have N82 : Fr n0 L82 := by rw [l82]; exact Fr.app N80 N82q
    obtain ⟨cq83, kq83, q83a, q83b, q83c⟩ := isOf hZ e82 A66
    obtain ⟨_, _, ⟨T83, L83, k83, n83⟩, -, X83, ⟨Lc83, hQ83, l83, y83, z83⟩, st83⟩ := X82.virtualBack hx (y := (⟨"com/example/longpole/longpole/Span", "service", "()Ljava/lang/String;"⟩ : MethodName)) (z := (⟨"com/example/longpole/longpole/Span", "service", "()Ljava/lang/String;"⟩ : MethodName)) hown (mvT hZ (hw _ (List.mem_of_getElem? (i := 109) rfl))) (mvT hZ (hw _ (List.mem_of_getElem? (i := 110) rfl))) (notFace_of_selects (args := #[]) (mvT hZ (hw _ (List.mem_of_getElem? (i := 112) rfl)))) (mvT hZ (hw _ (List.mem_of_getElem? (i := 112) rfl))) (mvT hZ (hw _ (List.mem_of_getElem? (i := 111) rfl))) (by decide) (backOf (W := 0) (rm17 l Z a0 hw [] b66 (Value.ref b32) T66.heap n0 Z66 G66_service rfl) hZ (hw _ (List.mem_of_getElem? (i := 113) rfl)) (hw _ (List.mem_of_getElem? (i := 38) rfl)) (by decide) (by decide)) q83a q83c (g := (mkF m 222 #[.val (.int p1), .val (.int p2), .val (.int p3), .val (.long q4), .second, .val (.long q5), .second, .val (.ref b6), .val (.ref b7), .val (.ref b12), .val (.ref b15), .val (.ref b20), .val (.ref b25), .val (.ref b32), .val (.int (if (p3 &&& (1 : Int32)) = (0 : Int32) then (0 : Int32) else (1 : Int32))), .val (.int (if (p3 &&& (2 : Int32)) = (0 : Int32) then (0 : Int32) else (1 : Int32))), .val (.int (if (p3 &&& (4 : Int32)) = (0 : Int32) then (0 : Int32) else (1 : Int32))), .val (.ref (own_f7 ((((p3.toUInt32 >>> ((3 : Int32) &&& 31).toUInt32).toInt32) &&& (7 : Int32)) % (5 : Int32)) s_INTERNAL s_CLIENT s_SERVER s_PRODUCER s_CONSUMER)), .val (.ref b56), .val (.ref b66)] [(.ref b66)])) rfl (by rw [hml]; rfl) (Steps.refl _) (argsL := []) (rest := []) (lenOf pd_0_4 rfl) rfl (by show 2 * 0 + _ ≤ _; exact Nat.le_of_eq rfl) (hb hby at_222) (fun _ _ => ⟨rfl, e82, (by decide : 16 + 0 ≤ _), (by decide : 59 + 0 ≤ _)⟩)
    dsimp only [Pt.U, Pt.locs, Pt.cells, Pt.slots] at X83 l83 y83 z83 st83 hQ83
    replace y83 : k83 = 16 := y83
    replace z83 : n83 = 59 := z83
    subst y83 z83
    obtain ⟨rfl, N83q, e83⟩ := hQ83
    have N83 : Fr n0 L83 := by rw [l83]; exact Fr.app N82 N83q
    have pr84 : ∀ t, Steps p.tables e below (T83.setTop (mkF m 225 #[.val (.int p1), .val (.int p2), .val (.int p3), .val (.long q4), .second, .val (.long q5), .second, .val (.ref b6), .val (.ref b7), .val (.ref b12), .val (.ref b15), .val (.ref b20), .val (.ref b25), .val (.ref b32), .val (.int (if (p3 &&& (1 : Int32)) = (0 : Int32) then (0 : Int32) else (1 : Int32))), .val (.int (if (p3 &&& (2 : Int32)) = (0 : Int32) then (0 : Int32) else (1 : Int32))), .val (.int (if (p3 &&& (4 : Int32)) = (0 : Int32) then (0 : Int32) else (1 : Int32))), .val (.ref (own_f7 ((((p3.toUInt32 >>> ((3 : Int32) &&& 31).toUInt32).toInt32) &&& (7 : Int32)) % (5 : Int32)) s_INTERNAL s_CLIENT s_SERVER s_PRODUCER s_CONSUMER)), .val (.ref b56), .val (.ref b66)] [(.ref b32)])) t → Steps p.tables e below (s₁.setTop (entryFrame m #[(.int p1), (.int p2), (.int p3), (.long q4), (.long q5)] maxLocals)) t := by
      intro t k
      refine pr81 t ?_
      show Steps p.tables e below (T80.setTop (mkF m 205 #[.val (.int p1), .val (.int p2), .val (.int p3), .val (.long q4), .second, .val (.long q5), .second, .val (.ref b6), .val (.ref b7), .val (.ref b12), .val (.ref b15), .val (.ref b20), .val (.ref b25), .val (.ref b32), .val (.int (if (p3 &&& (1 : Int32)) = (0 : Int32) then (0 : Int32) else (1 : Int32))), .val (.int (if (p3 &&& (2 : Int32)) = (0 : Int32) then (0 : Int32) else (1 : Int32))), .val (.int (if (p3 &&& (4 : Int32)) = (0 : Int32) then (0 : Int32) else (1 : Int32))), .val (.ref (own_f7 ((((p3.toUInt32 >>> ((3 : Int32) &&& 31).toUInt32).toInt32) &&& (7 : Int32)) % (5 : Int32)) s_INTERNAL s_CLIENT s_SERVER s_PRODUCER s_CONSUMER)), .val (.ref b56), .val (.ref b66)] [(.ref (own_f7 ((((p3.toUInt32 >>> ((3 : Int32) &&& 31).toUInt32).toInt32) &&& (7 : Int32)) % (5 : Int32)) s_INTERNAL s_CLIENT s_SERVER s_PRODUCER s_CONSUMER))])) _
      refine XS.aload X80.here hx rfl (hb hby at_205) rfl rfl ?_
      show Steps p.tables e below (T80.setTop (mkF m 207 #[.val (.int p1), .val (.int p2), .val (.int p3), .val (.long q4), .second, .val (.long q5), .second, .val (.ref b6), .val (.ref b7), .val (.ref b12), .val (.ref b15), .val (.ref b20), .val (.ref b25), .val (.ref b32), .val (.int (if (p3 &&& (1 : Int32)) = (0 : Int32) then (0 : Int32) else (1 : Int32))), .val (.int (if (p3 &&& (2 : Int32)) = (0 : Int32) then (0 : Int32) else (1 : Int32))), .val (.int (if (p3 &&& (4 : Int32)) = (0 : Int32) then (0 : Int32) else (1 : Int32))), .val (.ref (own_f7 ((((p3.toUInt32 >>> ((3 : Int32) &&& 31).toUInt32).toInt32) &&& (7 : Int32)) % (5 : Int32)) s_INTERNAL s_CLIENT s_SERVER s_PRODUCER s_CONSUMER)), .val (.ref b56), .val (.ref b66)] [(.ref (own_f7 ((((p3.toUInt32 >>> ((3 : Int32) &&& 31).toUInt32).toInt32) &&& (7 : Int32)) % (5 : Int32)) s_INTERNAL s_CLIENT s_SERVER s_PRODUCER s_CONSUMER)), (.ref (own_f7 ((((p3.toUInt32 >>> ((3 : Int32) &&& 31).toUInt32).toInt32) &&& (7 : Int32)) % (5 : Int32)) s_INTERNAL s_CLIENT s_SERVER s_PRODUCER s_CONSUMER))])) _
      refine Jvm.RoadKit.acmp (g := (mkF m 207 #[.val (.int p1), .val (.int p2), .val (.int p3), .val (.long q4), .second, .val (.long q5), .second, .val (.ref b6), .val (.ref b7), .val (.ref b12), .val (.ref b15), .val (.ref b20), .val (.ref b25), .val (.ref b32), .val (.int (if (p3 &&& (1 : Int32)) = (0 : Int32) then (0 : Int32) else (1 : Int32))), .val (.int (if (p3 &&& (2 : Int32)) = (0 : Int32) then (0 : Int32) else (1 : Int32))), .val (.int (if (p3 &&& (4 : Int32)) = (0 : Int32) then (0 : Int32) else (1 : Int32))), .val (.ref (own_f7 ((((p3.toUInt32 >>> ((3 : Int32) &&& 31).toUInt32).toInt32) &&& (7 : Int32)) % (5 : Int32)) s_INTERNAL s_CLIENT s_SERVER s_PRODUCER s_CONSUMER)), .val (.ref b56), .val (.ref b66)] [(.ref (own_f7 ((((p3.toUInt32 >>> ((3 : Int32) &&& 31).toUInt32).toInt32) &&& (7 : Int32)) % (5 : Int32)) s_INTERNAL s_CLIENT s_SERVER s_PRODUCER s_CONSUMER)), (.ref (own_f7 ((((p3.toUInt32 >>> ((3 : Int32) &&& 31).toUInt32).toInt32) &&& (7 : Int32)) % (5 : Int32)) s_INTERNAL s_CLIENT s_SERVER s_PRODUCER s_CONSUMER))])) X80 hx rfl rfl rfl (pc0 := 207) (pc' := 210) (same := true) rfl (hb hby at_207) rfl (decide_eq_true rfl) (by decide) (by decide) ?_
      show Steps p.tables e below (T80.setTop (mkF m 210 #[.val (.int p1), .val (.int p2), .val (.int p3), .val (.long q4), .second, .val (.long q5), .second, .val (.ref b6), .val (.ref b7), .val (.ref b12), .val (.ref b15), .val (.ref b20), .val (.ref b25), .val (.ref b32), .val (.int (if (p3 &&& (1 : Int32)) = (0 : Int32) then (0 : Int32) else (1 : Int32))), .val (.int (if (p3 &&& (2 : Int32)) = (0 : Int32) then (0 : Int32) else (1 : Int32))), .val (.int (if (p3 &&& (4 : Int32)) = (0 : Int32) then (0 : Int32) else (1 : Int32))), .val (.ref (own_f7 ((((p3.toUInt32 >>> ((3 : Int32) &&& 31).toUInt32).toInt32) &&& (7 : Int32)) % (5 : Int32)) s_INTERNAL s_CLIENT s_SERVER s_PRODUCER s_CONSUMER)), .val (.ref b56), .val (.ref b66)] [])) _
      refine XS.aload X80.here hx rfl (hb hby at_210) rfl rfl ?_
      show Steps p.tables e below (T80.setTop (mkF m 212 #[.val (.int p1), .val (.int p2), .val (.int p3), .val (.long q4), .second, .val (.long q5), .second, .val (.ref b6), .val (.ref b7), .val (.ref b12), .val (.ref b15), .val (.ref b20), .val (.ref b25), .val (.ref b32), .val (.int (if (p3 &&& (1 : Int32)) = (0 : Int32) then (0 : Int32) else (1 : Int32))), .val (.int (if (p3 &&& (2 : Int32)) = (0 : Int32) then (0 : Int32) else (1 : Int32))), .val (.int (if (p3 &&& (4 : Int32)) = (0 : Int32) then (0 : Int32) else (1 : Int32))), .val (.ref (own_f7 ((((p3.toUInt32 >>> ((3 : Int32) &&& 31).toUInt32).toInt32) &&& (7 : Int32)) % (5 : Int32)) s_INTERNAL s_CLIENT s_SERVER s_PRODUCER s_CONSUMER)), .val (.ref b56), .val (.ref b66)] [(.ref b66)])) _
      refine st82.trans ?_
      show Steps p.tables e below (T82.setTop (mkF m 215 #[.val (.int p1), .val (.int p2), .val (.int p3), .val (.long q4), .second, .val (.long q5), .second, .val (.ref b6), .val (.ref b7), .val (.ref b12), .val (.ref b15), .val (.ref b20), .val (.ref b25), .val (.ref b32), .val (.int (if (p3 &&& (1 : Int32)) = (0 : Int32) then (0 : Int32) else (1 : Int32))), .val (.int (if (p3 &&& (2 : Int32)) = (0 : Int32) then (0 : Int32) else (1 : Int32))), .val (.int (if (p3 &&& (4 : Int32)) = (0 : Int32) then (0 : Int32) else (1 : Int32))), .val (.ref (own_f7 ((((p3.toUInt32 >>> ((3 : Int32) &&& 31).toUInt32).toInt32) &&& (7 : Int32)) % (5 : Int32)) s_INTERNAL s_CLIENT s_SERVER s_PRODUCER s_CONSUMER)), .val (.ref b56), .val (.ref b66)] [(.int (nar .boolean (nar .boolean (nar .boolean (if (p3 &&& (2 : Int32)) = (0 : Int32) then (0 : Int32) else (1 : Int32))))))])) _
      refine XS.iload X82.here hx rfl (hb hby at_215) rfl ?_
      show Steps p.tables e below (T82.setTop (mkF m 217 #[.val (.int p1), .val (.int p2), .val (.int p3), .val (.long q4), .second, .val (.long q5), .second, .val (.ref b6), .val (.ref b7), .val (.ref b12), .val (.ref b15), .val (.ref b20), .val (.ref b25), .val (.ref b32), .val (.int (if (p3 &&& (1 : Int32)) = (0 : Int32) then (0 : Int32) else (1 : Int32))), .val (.int (if (p3 &&& (2 : Int32)) = (0 : Int32) then (0 : Int32) else (1 : Int32))), .val (.int (if (p3 &&& (4 : Int32)) = (0 : Int32) then (0 : Int32) else (1 : Int32))), .val (.ref (own_f7 ((((p3.toUInt32 >>> ((3 : Int32) &&& 31).toUInt32).toInt32) &&& (7 : Int32)) % (5 : Int32)) s_INTERNAL s_CLIENT s_SERVER s_PRODUCER s_CONSUMER)), .val (.ref b56), .val (.ref b66)] [(.int (if (p3 &&& (2 : Int32)) = (0 : Int32) then (0 : Int32) else (1 : Int32))), (.int (nar .boolean (nar .boolean (nar .boolean (if (p3 &&& (2 : Int32)) = (0 : Int32) then (0 : Int32) else (1 : Int32))))))])) _
      refine XS.icmpNo X82.here hx rfl (hb hby at_217) rfl (teq (by simp only [own_narN, own_narIf] : (nar .boolean (nar .boolean (nar .boolean (if (p3 &&& (2 : Int32)) = (0 : Int32) then (0 : Int32) else (1 : Int32))))) = (if (p3 &&& (2 : Int32)) = (0 : Int32) then (0 : Int32) else (1 : Int32)))).2 ?_
      show Steps p.tables e below (T82.setTop (mkF m 220 #[.val (.int p1), .val (.int p2), .val (.int p3), .val (.long q4), .second, .val (.long q5), .second, .val (.ref b6), .val (.ref b7), .val (.ref b12), .val (.ref b15), .val (.ref b20), .val (.ref b25), .val (.ref b32), .val (.int (if (p3 &&& (1 : Int32)) = (0 : Int32) then (0 : Int32) else (1 : Int32))), .val (.int (if (p3 &&& (2 : Int32)) = (0 : Int32) then (0 : Int32) else (1 : Int32))), .val (.int (if (p3 &&& (4 : Int32)) = (0 : Int32) then (0 : Int32) else (1 : Int32))), .val (.ref (own_f7 ((((p3.toUInt32 >>> ((3 : Int32) &&& 31).toUInt32).toInt32) &&& (7 : Int32)) % (5 : Int32)) s_INTERNAL s_CLIENT s_SERVER s_PRODUCER s_CONSUMER)), .val (.ref b56), .val (.ref b66)] [])) _
      refine XS.aload X82.here hx rfl (hb hby at_220) rfl rfl ?_
      show Steps p.tables e below (T82.setTop (mkF m 222 #[.val (.int p1), .val (.int p2), .val (.int p3), .val (.long q4), .second, .val (.long q5), .second, .val (.ref b6), .val (.ref b7), .val (.ref b12), .val (.ref b15), .val (.ref b20), .val (.ref b25), .val (.ref b32), .val (.int (if (p3 &&& (1 : Int32)) = (0 : Int32) then (0 : Int32) else (1 : Int32))), .val (.int (if (p3 &&& (2 : Int32)) = (0 : Int32) then (0 : Int32) else (1 : Int32))), .val (.int (if (p3 &&& (4 : Int32)) = (0 : Int32) then (0 : Int32) else (1 : Int32))), .val (.ref (own_f7 ((((p3.toUInt32 >>> ((3 : Int32) &&& 31).toUInt32).toInt32) &&& (7 : Int32)) % (5 : Int32)) s_INTERNAL s_CLIENT s_SERVER s_PRODUCER s_CONSUMER)), .val (.ref b56), .val (.ref b66)] [(.ref b66)])) _
      refine st83.trans ?_
      exact k
    obtain ⟨cq85, kq85, q85a, q85b, q85c⟩ := isOf hZ e83 A66
    obtain ⟨_, _, ⟨T85, L85, k85, n85⟩, -, X85, ⟨Lc85, hQ85, l85, y85, z85⟩, st85⟩ := X83.virtualBack hx (y := (⟨"com/example/longpole/longpole/Span", "name", "()Ljava/lang/String;"⟩ : MethodName)) (z := (⟨"com/example/longpole/longpole/Span", "name", "()Ljava/lang/String;"⟩ : MethodName)) hown (mvT hZ (hw _ (List.mem_of_getElem? (i := 114) rfl))) (mvT hZ (hw _ (List.mem_of_getElem? (i := 115) rfl))) (notFace_of_selects (args := #[]) (mvT hZ (hw _ (List.mem_of_getElem? (i := 117) rfl)))) (mvT hZ (hw _ (List.mem_of_getElem? (i := 117) rfl))) (mvT hZ (hw _ (List.mem_of_getElem? (i := 116) rfl))) (by decide) (backOf (W := 0) (rm18 l Z a0 hw [] b66 (Value.ref b20) T66.heap n0 Z66 G66_name rfl) hZ (hw _ (List.mem_of_getElem? (i := 118) rfl)) (hw _ (List.mem_of_getElem? (i := 38) rfl)) (by decide) (by decide)) q85a q85c (g := (mkF m 232 #[.val (.int p1), .val (.int p2), .val (.int p3), .val (.long q4), .second, .val (.long q5), .second, .val (.ref b6), .val (.ref b7), .val (.ref b12), .val (.ref b15), .val (.ref b20), .val (.ref b25), .val (.ref b32), .val (.int (if (p3 &&& (1 : Int32)) = (0 : Int32) then (0 : Int32) else (1 : Int32))), .val (.int (if (p3 &&& (2 : Int32)) = (0 : Int32) then (0 : Int32) else (1 : Int32))), .val (.int (if (p3 &&& (4 : Int32)) = (0 : Int32) then (0 : Int32) else (1 : Int32))), .val (.ref (own_f7 ((((p3.toUInt32 >>> ((3 : Int32) &&& 31).toUInt32).toInt32) &&& (7 : Int32)) % (5 : Int32)) s_INTERNAL s_CLIENT s_SERVER s_PRODUCER s_CONSUMER)), .val (.ref b56), .val (.ref b66)] [(.ref b66)])) rfl (by rw [hml]; rfl) (Steps.refl _) (argsL := []) (rest := []) (lenOf pd_0_4 rfl) rfl (by show 2 * 0 + _ ≤ _; exact Nat.le_of_eq rfl) (hb hby at_232) (fun _ _ => ⟨rfl, e83, (by decide : 16 + 0 ≤ _), (by decide : 59 + 0 ≤ _)⟩)
    dsimp only [Pt.U, Pt.locs, Pt.cells, Pt.slots] at X85 l85 y85 z85 st85 hQ85
    replace y85 : k85 = 16 := y85
    replace z85 : n85 = 59 := z85
    subst y85 z85
    obtain ⟨rfl, N85q, e85⟩ := hQ85
    have N85 : Fr n0 L85 := by rw [l85]; exact Fr.app N83 N85q
    obtain ⟨cq86, kq86, q86a, q86b, q86c⟩ := isOf hZ e85 A66
    obtain ⟨_, _, ⟨T86, L86, k86, n86⟩, -, X86, ⟨Lc86, hQ86, l86, y86, z86⟩, st86⟩ := X85.virtualBack hx (y := (⟨"com/example/longpole/longpole/Span", "remoteService", "()Ljava/lang/String;"⟩ : MethodName)) (z := (⟨"com/example/longpole/longpole/Span", "remoteService", "()Ljava/lang/String;"⟩ : MethodName)) hown (mvT hZ (hw _ (List.mem_of_getElem? (i := 119) rfl))) (mvT hZ (hw _ (List.mem_of_getElem? (i := 120) rfl))) (notFace_of_selects (args := #[]) (mvT hZ (hw _ (List.mem_of_getElem? (i := 122) rfl)))) (mvT hZ (hw _ (List.mem_of_getElem? (i := 122) rfl))) (mvT hZ (hw _ (List.mem_of_getElem? (i := 121) rfl))) (by decide) (backOf (W := 0) (rm19 l Z a0 hw [] b66 (Value.ref b25) T66.heap n0 Z66 G66_remoteService rfl) hZ (hw _ (List.mem_of_getElem? (i := 123) rfl)) (hw _ (List.mem_of_getElem? (i := 38) rfl)) (by decide) (by decide)) q86a q86c (g := (mkF m 242 #[.val (.int p1), .val (.int p2), .val (.int p3), .val (.long q4), .second, .val (.long q5), .second, .val (.ref b6), .val (.ref b7), .val (.ref b12), .val (.ref b15), .val (.ref b20), .val (.ref b25), .val (.ref b32), .val (.int (if (p3 &&& (1 : Int32)) = (0 : Int32) then (0 : Int32) else (1 : Int32))), .val (.int (if (p3 &&& (2 : Int32)) = (0 : Int32) then (0 : Int32) else (1 : Int32))), .val (.int (if (p3 &&& (4 : Int32)) = (0 : Int32) then (0 : Int32) else (1 : Int32))), .val (.ref (own_f7 ((((p3.toUInt32 >>> ((3 : Int32) &&& 31).toUInt32).toInt32) &&& (7 : Int32)) % (5 : Int32)) s_INTERNAL s_CLIENT s_SERVER s_PRODUCER s_CONSUMER)), .val (.ref b56), .val (.ref b66)] [(.ref b66)])) rfl (by rw [hml]; rfl) (Steps.refl _) (argsL := []) (rest := []) (lenOf pd_0_4 rfl) rfl (by show 2 * 0 + _ ≤ _; exact Nat.le_of_eq rfl) (hb hby at_242) (fun _ _ => ⟨rfl, e85, (by decide : 16 + 0 ≤ _), (by decide : 59 + 0 ≤ _)⟩)
    dsimp only [Pt.U, Pt.locs, Pt.cells, Pt.slots] at X86 l86 y86 z86 st86 hQ86
    replace y86 : k86 = 16 := y86
    replace z86 : n86 = 59 := z86
    subst y86 z86
    obtain ⟨rfl, N86q, e86⟩ := hQ86
    have N86 : Fr n0 L86 := by rw [l86]; exact Fr.app N85 N86q
    have pr87 : ∀ t, Steps p.tables e below (T86.setTop (mkF m 245 #[.val (.int p1), .val (.int p2), .val (.int p3), .val (.long q4), .second, .val (.long q5), .second, .val (.ref b6), .val (.ref b7), .val (.ref b12), .val (.ref b15), .val (.ref b20), .val (.ref b25), .val (.ref b32), .val (.int (if (p3 &&& (1 : Int32)) = (0 : Int32) then (0 : Int32) else (1 : Int32))), .val (.int (if (p3 &&& (2 : Int32)) = (0 : Int32) then (0 : Int32) else (1 : Int32))), .val (.int (if (p3 &&& (4 : Int32)) = (0 : Int32) then (0 : Int32) else (1 : Int32))), .val (.ref (own_f7 ((((p3.toUInt32 >>> ((3 : Int32) &&& 31).toUInt32).toInt32) &&& (7 : Int32)) % (5 : Int32)) s_INTERNAL s_CLIENT s_SERVER s_PRODUCER s_CONSUMER)), .val (.ref b56), .val (.ref b66)] [(.ref b25)])) t → Steps p.tables e below (s₁.setTop (entryFrame m #[(.int p1), (.int p2), (.int p3), (.long q4), (.long q5)] maxLocals)) t := by
      intro t k
      refine pr84 t ?_
      show Steps p.tables e below (T83.setTop (mkF m 225 #[.val (.int p1), .val (.int p2), .val (.int p3), .val (.long q4), .second, .val (.long q5), .second, .val (.ref b6), .val (.ref b7), .val (.ref b12), .val (.ref b15), .val (.ref b20), .val (.ref b25), .val (.ref b32), .val (.int (if (p3 &&& (1 : Int32)) = (0 : Int32) then (0 : Int32) else (1 : Int32))), .val (.int (if (p3 &&& (2 : Int32)) = (0 : Int32) then (0 : Int32) else (1 : Int32))), .val (.int (if (p3 &&& (4 : Int32)) = (0 : Int32) then (0 : Int32) else (1 : Int32))), .val (.ref (own_f7 ((((p3.toUInt32 >>> ((3 : Int32) &&& 31).toUInt32).toInt32) &&& (7 : Int32)) % (5 : Int32)) s_INTERNAL s_CLIENT s_SERVER s_PRODUCER s_CONSUMER)), .val (.ref b56), .val (.ref b66)] [(.ref b32)])) _
      refine XS.aload X83.here hx rfl (hb hby at_225) rfl rfl ?_
      show Steps p.tables e below (T83.setTop (mkF m 227 #[.val (.int p1), .val (.int p2), .val (.int p3), .val (.long q4), .second, .val (.long q5), .second, .val (.ref b6), .val (.ref b7), .val (.ref b12), .val (.ref b15), .val (.ref b20), .val (.ref b25), .val (.ref b32), .val (.int (if (p3 &&& (1 : Int32)) = (0 : Int32) then (0 : Int32) else (1 : Int32))), .val (.int (if (p3 &&& (2 : Int32)) = (0 : Int32) then (0 : Int32) else (1 : Int32))), .val (.int (if (p3 &&& (4 : Int32)) = (0 : Int32) then (0 : Int32) else (1 : Int32))), .val (.ref (own_f7 ((((p3.toUInt32 >>> ((3 : Int32) &&& 31).toUInt32).toInt32) &&& (7 : Int32)) % (5 : Int32)) s_INTERNAL s_CLIENT s_SERVER s_PRODUCER s_CONSUMER)), .val (.ref b56), .val (.ref b66)] [(.ref b32), (.ref b32)])) _
      refine Jvm.RoadKit.acmp (g := (mkF m 227 #[.val (.int p1), .val (.int p2), .val (.int p3), .val (.long q4), .second, .val (.long q5), .second, .val (.ref b6), .val (.ref b7), .val (.ref b12), .val (.ref b15), .val (.ref b20), .val (.ref b25), .val (.ref b32), .val (.int (if (p3 &&& (1 : Int32)) = (0 : Int32) then (0 : Int32) else (1 : Int32))), .val (.int (if (p3 &&& (2 : Int32)) = (0 : Int32) then (0 : Int32) else (1 : Int32))), .val (.int (if (p3 &&& (4 : Int32)) = (0 : Int32) then (0 : Int32) else (1 : Int32))), .val (.ref (own_f7 ((((p3.toUInt32 >>> ((3 : Int32) &&& 31).toUInt32).toInt32) &&& (7 : Int32)) % (5 : Int32)) s_INTERNAL s_CLIENT s_SERVER s_PRODUCER s_CONSUMER)), .val (.ref b56), .val (.ref b66)] [(.ref b32), (.ref b32)])) X83 hx rfl rfl rfl (pc0 := 227) (pc' := 230) (same := true) rfl (hb hby at_227) rfl (decide_eq_true rfl) (by decide) (by decide) ?_
      show Steps p.tables e below (T83.setTop (mkF m 230 #[.val (.int p1), .val (.int p2), .val (.int p3), .val (.long q4), .second, .val (.long q5), .second, .val (.ref b6), .val (.ref b7), .val (.ref b12), .val (.ref b15), .val (.ref b20), .val (.ref b25), .val (.ref b32), .val (.int (if (p3 &&& (1 : Int32)) = (0 : Int32) then (0 : Int32) else (1 : Int32))), .val (.int (if (p3 &&& (2 : Int32)) = (0 : Int32) then (0 : Int32) else (1 : Int32))), .val (.int (if (p3 &&& (4 : Int32)) = (0 : Int32) then (0 : Int32) else (1 : Int32))), .val (.ref (own_f7 ((((p3.toUInt32 >>> ((3 : Int32) &&& 31).toUInt32).toInt32) &&& (7 : Int32)) % (5 : Int32)) s_INTERNAL s_CLIENT s_SERVER s_PRODUCER s_CONSUMER)), .val (.ref b56), .val (.ref b66)] [])) _
      refine XS.aload X83.here hx rfl (hb hby at_230) rfl rfl ?_
      show Steps p.tables e below (T83.setTop (mkF m 232 #[.val (.int p1), .val (.int p2), .val (.int p3), .val (.long q4), .second, .val (.long q5), .second, .val (.ref b6), .val (.ref b7), .val (.ref b12), .val (.ref b15), .val (.ref b20), .val (.ref b25), .val (.ref b32), .val (.int (if (p3 &&& (1 : Int32)) = (0 : Int32) then (0 : Int32) else (1 : Int32))), .val (.int (if (p3 &&& (2 : Int32)) = (0 : Int32) then (0 : Int32) else (1 : Int32))), .val (.int (if (p3 &&& (4 : Int32)) = (0 : Int32) then (0 : Int32) else (1 : Int32))), .val (.ref (own_f7 ((((p3.toUInt32 >>> ((3 : Int32) &&& 31).toUInt32).toInt32) &&& (7 : Int32)) % (5 : Int32)) s_INTERNAL s_CLIENT s_SERVER s_PRODUCER s_CONSUMER)), .val (.ref b56), .val (.ref b66)] [(.ref b66)])) _
      refine st85.trans ?_
      show Steps p.tables e below (T85.setTop (mkF m 235 #[.val (.int p1), .val (.int p2), .val (.int p3), .val (.long q4), .second, .val (.long q5), .second, .val (.ref b6), .val (.ref b7), .val (.ref b12), .val (.ref b15), .val (.ref b20), .val (.ref b25), .val (.ref b32), .val (.int (if (p3 &&& (1 : Int32)) = (0 : Int32) then (0 : Int32) else (1 : Int32))), .val (.int (if (p3 &&& (2 : Int32)) = (0 : Int32) then (0 : Int32) else (1 : Int32))), .val (.int (if (p3 &&& (4 : Int32)) = (0 : Int32) then (0 : Int32) else (1 : Int32))), .val (.ref (own_f7 ((((p3.toUInt32 >>> ((3 : Int32) &&& 31).toUInt32).toInt32) &&& (7 : Int32)) % (5 : Int32)) s_INTERNAL s_CLIENT s_SERVER s_PRODUCER s_CONSUMER)), .val (.ref b56), .val (.ref b66)] [(.ref b20)])) _
      refine XS.aload X85.here hx rfl (hb hby at_235) rfl rfl ?_
      show Steps p.tables e below (T85.setTop (mkF m 237 #[.val (.int p1), .val (.int p2), .val (.int p3), .val (.long q4), .second, .val (.long q5), .second, .val (.ref b6), .val (.ref b7), .val (.ref b12), .val (.ref b15), .val (.ref b20), .val (.ref b25), .val (.ref b32), .val (.int (if (p3 &&& (1 : Int32)) = (0 : Int32) then (0 : Int32) else (1 : Int32))), .val (.int (if (p3 &&& (2 : Int32)) = (0 : Int32) then (0 : Int32) else (1 : Int32))), .val (.int (if (p3 &&& (4 : Int32)) = (0 : Int32) then (0 : Int32) else (1 : Int32))), .val (.ref (own_f7 ((((p3.toUInt32 >>> ((3 : Int32) &&& 31).toUInt32).toInt32) &&& (7 : Int32)) % (5 : Int32)) s_INTERNAL s_CLIENT s_SERVER s_PRODUCER s_CONSUMER)), .val (.ref b56), .val (.ref b66)] [(.ref b20), (.ref b20)])) _
      refine Jvm.RoadKit.acmp (g := (mkF m 237 #[.val (.int p1), .val (.int p2), .val (.int p3), .val (.long q4), .second, .val (.long q5), .second, .val (.ref b6), .val (.ref b7), .val (.ref b12), .val (.ref b15), .val (.ref b20), .val (.ref b25), .val (.ref b32), .val (.int (if (p3 &&& (1 : Int32)) = (0 : Int32) then (0 : Int32) else (1 : Int32))), .val (.int (if (p3 &&& (2 : Int32)) = (0 : Int32) then (0 : Int32) else (1 : Int32))), .val (.int (if (p3 &&& (4 : Int32)) = (0 : Int32) then (0 : Int32) else (1 : Int32))), .val (.ref (own_f7 ((((p3.toUInt32 >>> ((3 : Int32) &&& 31).toUInt32).toInt32) &&& (7 : Int32)) % (5 : Int32)) s_INTERNAL s_CLIENT s_SERVER s_PRODUCER s_CONSUMER)), .val (.ref b56), .val (.ref b66)] [(.ref b20), (.ref b20)])) X85 hx rfl rfl rfl (pc0 := 237) (pc' := 240) (same := true) rfl (hb hby at_237) rfl (decide_eq_true rfl) (by decide) (by decide) ?_
      show Steps p.tables e below (T85.setTop (mkF m 240 #[.val (.int p1), .val (.int p2), .val (.int p3), .val (.long q4), .second, .val (.long q5), .second, .val (.ref b6), .val (.ref b7), .val (.ref b12), .val (.ref b15), .val (.ref b20), .val (.ref b25), .val (.ref b32), .val (.int (if (p3 &&& (1 : Int32)) = (0 : Int32) then (0 : Int32) else (1 : Int32))), .val (.int (if (p3 &&& (2 : Int32)) = (0 : Int32) then (0 : Int32) else (1 : Int32))), .val (.int (if (p3 &&& (4 : Int32)) = (0 : Int32) then (0 : Int32) else (1 : Int32))), .val (.ref (own_f7 ((((p3.toUInt32 >>> ((3 : Int32) &&& 31).toUInt32).toInt32) &&& (7 : Int32)) % (5 : Int32)) s_INTERNAL s_CLIENT s_SERVER s_PRODUCER s_CONSUMER)), .val (.ref b56), .val (.ref b66)] [])) _
      refine XS.aload X85.here hx rfl (hb hby at_240) rfl rfl ?_
      show Steps p.tables e below (T85.setTop (mkF m 242 #[.val (.int p1), .val (.int p2), .val (.int p3), .val (.long q4), .second, .val (.long q5), .second, .val (.ref b6), .val (.ref b7), .val (.ref b12), .val (.ref b15), .val (.ref b20), .val (.ref b25), .val (.ref b32), .val (.int (if (p3 &&& (1 : Int32)) = (0 : Int32) then (0 : Int32) else (1 : Int32))), .val (.int (if (p3 &&& (2 : Int32)) = (0 : Int32) then (0 : Int32) else (1 : Int32))), .val (.int (if (p3 &&& (4 : Int32)) = (0 : Int32) then (0 : Int32) else (1 : Int32))), .val (.ref (own_f7 ((((p3.toUInt32 >>> ((3 : Int32) &&& 31).toUInt32).toInt32) &&& (7 : Int32)) % (5 : Int32)) s_INTERNAL s_CLIENT s_SERVER s_PRODUCER s_CONSUMER)), .val (.ref b56), .val (.ref b66)] [(.ref b66)])) _
      refine st86.trans ?_
      exact k
    obtain ⟨cq88, kq88, q88a, q88b, q88c⟩ := isOf hZ e86 A66
    obtain ⟨_, _, ⟨T88, L88, k88, n88⟩, -, X88, ⟨Lc88, hQ88, l88, y88, z88⟩, st88⟩ := X86.virtualBack hx (y := (⟨"com/example/longpole/longpole/Span", "hasTimestamp", "()Z"⟩ : MethodName)) (z := (⟨"com/example/longpole/longpole/Span", "hasTimestamp", "()Z"⟩ : MethodName)) hown (mvT hZ (hw _ (List.mem_of_getElem? (i := 124) rfl))) (mvT hZ (hw _ (List.mem_of_getElem? (i := 125) rfl))) (notFace_of_selects (args := #[]) (mvT hZ (hw _ (List.mem_of_getElem? (i := 127) rfl)))) (mvT hZ (hw _ (List.mem_of_getElem? (i := 127) rfl))) (mvT hZ (hw _ (List.mem_of_getElem? (i := 126) rfl))) (by decide) (backOf (W := 0) (rm20 l Z a0 hw [] b66 (nar .boolean (nar .boolean (if (p3 &&& (4 : Int32)) = (0 : Int32) then (0 : Int32) else (1 : Int32)))) T66.heap n0 Z66 G66_hasTimestamp) hZ (hw _ (List.mem_of_getElem? (i := 128) rfl)) (hw _ (List.mem_of_getElem? (i := 38) rfl)) (by decide) (by decide)) q88a q88c (g := (mkF m 252 #[.val (.int p1), .val (.int p2), .val (.int p3), .val (.long q4), .second, .val (.long q5), .second, .val (.ref b6), .val (.ref b7), .val (.ref b12), .val (.ref b15), .val (.ref b20), .val (.ref b25), .val (.ref b32), .val (.int (if (p3 &&& (1 : Int32)) = (0 : Int32) then (0 : Int32) else (1 : Int32))), .val (.int (if (p3 &&& (2 : Int32)) = (0 : Int32) then (0 : Int32) else (1 : Int32))), .val (.int (if (p3 &&& (4 : Int32)) = (0 : Int32) then (0 : Int32) else (1 : Int32))), .val (.ref (own_f7 ((((p3.toUInt32 >>> ((3 : Int32) &&& 31).toUInt32).toInt32) &&& (7 : Int32)) % (5 : Int32)) s_INTERNAL s_CLIENT s_SERVER s_PRODUCER s_CONSUMER)), .val (.ref b56), .val (.ref b66)] [(.ref b66)])) rfl (by rw [hml]; rfl) (Steps.refl _) (argsL := []) (rest := []) (lenOf pd_0_5 rfl) rfl (by show 2 * 0 + _ ≤ _; exact Nat.le_of_eq rfl) (hb hby at_252) (fun _ _ => ⟨rfl, e86, (by decide : 16 + 0 ≤ _), (by decide : 59 + 0 ≤ _)⟩)
    dsimp only [Pt.U, Pt.locs, Pt.cells, Pt.slots] at X88 l88 y88 z88 st88 hQ88
    replace y88 : k88 = 16 := y88
    replace z88 : n88 = 59 := z88
    subst y88 z88
    obtain ⟨rfl, N88q, e88⟩ := hQ88
    have N88 : Fr n0 L88 := by rw [l88]; exact Fr.app N86 N88q
    obtain ⟨cq89, kq89, q89a, q89b, q89c⟩ := isOf hZ e88 A66
    obtain ⟨_, _, ⟨T89, L89, k89, n89⟩, -, X89, ⟨Lc89, hQ89, l89, y89, z89⟩, st89⟩ := X88.virtualBack hx (y := (⟨"com/example/longpole/longpole/Span", "startMicros", "()J"⟩ : MethodName)) (z := (⟨"com/example/longpole/longpole/Span", "startMicros", "()J"⟩ : MethodName)) hown (mvT hZ (hw _ (List.mem_of_getElem? (i := 129) rfl))) (mvT hZ (hw _ (List.mem_of_getElem? (i := 130) rfl))) (notFace_of_selects (args := #[]) (mvT hZ (hw _ (List.mem_of_getElem? (i := 132) rfl)))) (mvT hZ (hw _ (List.mem_of_getElem? (i := 132) rfl))) (mvT hZ (hw _ (List.mem_of_getElem? (i := 131) rfl))) (by decide) (backOf (W := 0) (rm21 l Z a0 hw [] b66 q4 T66.heap n0 Z66 G66_startMicros) hZ (hw _ (List.mem_of_getElem? (i := 133) rfl)) (hw _ (List.mem_of_getElem? (i := 38) rfl)) (by decide) (by decide)) q89a q89c (g := (mkF m 262 #[.val (.int p1), .val (.int p2), .val (.int p3), .val (.long q4), .second, .val (.long q5), .second, .val (.ref b6), .val (.ref b7), .val (.ref b12), .val (.ref b15), .val (.ref b20), .val (.ref b25), .val (.ref b32), .val (.int (if (p3 &&& (1 : Int32)) = (0 : Int32) then (0 : Int32) else (1 : Int32))), .val (.int (if (p3 &&& (2 : Int32)) = (0 : Int32) then (0 : Int32) else (1 : Int32))), .val (.int (if (p3 &&& (4 : Int32)) = (0 : Int32) then (0 : Int32) else (1 : Int32))), .val (.ref (own_f7 ((((p3.toUInt32 >>> ((3 : Int32) &&& 31).toUInt32).toInt32) &&& (7 : Int32)) % (5 : Int32)) s_INTERNAL s_CLIENT s_SERVER s_PRODUCER s_CONSUMER)), .val (.ref b56), .val (.ref b66)] [(.ref b66)])) rfl (by rw [hml]; rfl) (Steps.refl _) (argsL := []) (rest := []) (lenOf pd_0_7 rfl) rfl (by show 2 * 0 + _ ≤ _; exact Nat.le_of_eq rfl) (hb hby at_262) (fun _ _ => ⟨rfl, e88, (by decide : 16 + 0 ≤ _), (by decide : 59 + 0 ≤ _)⟩)
    dsimp only [Pt.U, Pt.locs, Pt.cells, Pt.slots] at X89 l89 y89 z89 st89 hQ89
    replace y89 : k89 = 16 := y89
    replace z89 : n89 = 59 := z89
    subst y89 z89
    obtain ⟨rfl, N89q, e89⟩ := hQ89
    have N89 : Fr n0 L89 := by rw [l89]; exact Fr.app N88 N89q
    have pr90 : ∀ t, Steps p.tables e below (T89.setTop (mkF m 265 #[.val (.int p1), .val (.int p2), .val (.int p3), .val (.long q4), .second, .val (.long q5), .second, .val (.ref b6), .val (.ref b7), .val (.ref b12), .val (.ref b15), .val (.ref b20), .val (.ref b25), .val (.ref b32), .val (.int (if (p3 &&& (1 : Int32)) = (0 : Int32) then (0 : Int32) else (1 : Int32))), .val (.int (if (p3 &&& (2 : Int32)) = (0 : Int32) then (0 : Int32) else (1 : Int32))), .val (.int (if (p3 &&& (4 : Int32)) = (0 : Int32) then (0 : Int32) else (1 : Int32))), .val (.ref (own_f7 ((((p3.toUInt32 >>> ((3 : Int32) &&& 31).toUInt32).toInt32) &&& (7 : Int32)) % (5 : Int32)) s_INTERNAL s_CLIENT s_SERVER s_PRODUCER s_CONSUMER)), .val (.ref b56), .val (.ref b66)] [(.long q4)])) t → Steps p.tables e below (s₁.setTop (entryFrame m #[(.int p1), (.int p2), (.int p3), (.long q4), (.long q5)] maxLocals)) t := by
      intro t k
      refine pr87 t ?_
      show Steps p.tables e below (T86.setTop (mkF m 245 #[.val (.int p1), .val (.int p2), .val (.int p3), .val (.long q4), .second, .val (.long q5), .second, .val (.ref b6), .val (.ref b7), .val (.ref b12), .val (.ref b15), .val (.ref b20), .val (.ref b25), .val (.ref b32), .val (.int (if (p3 &&& (1 : Int32)) = (0 : Int32) then (0 : Int32) else (1 : Int32))), .val (.int (if (p3 &&& (2 : Int32)) = (0 : Int32) then (0 : Int32) else (1 : Int32))), .val (.int (if (p3 &&& (4 : Int32)) = (0 : Int32) then (0 : Int32) else (1 : Int32))), .val (.ref (own_f7 ((((p3.toUInt32 >>> ((3 : Int32) &&& 31).toUInt32).toInt32) &&& (7 : Int32)) % (5 : Int32)) s_INTERNAL s_CLIENT s_SERVER s_PRODUCER s_CONSUMER)), .val (.ref b56), .val (.ref b66)] [(.ref b25)])) _
      refine XS.aload X86.here hx rfl (hb hby at_245) rfl rfl ?_
      show Steps p.tables e below (T86.setTop (mkF m 247 #[.val (.int p1), .val (.int p2), .val (.int p3), .val (.long q4), .second, .val (.long q5), .second, .val (.ref b6), .val (.ref b7), .val (.ref b12), .val (.ref b15), .val (.ref b20), .val (.ref b25), .val (.ref b32), .val (.int (if (p3 &&& (1 : Int32)) = (0 : Int32) then (0 : Int32) else (1 : Int32))), .val (.int (if (p3 &&& (2 : Int32)) = (0 : Int32) then (0 : Int32) else (1 : Int32))), .val (.int (if (p3 &&& (4 : Int32)) = (0 : Int32) then (0 : Int32) else (1 : Int32))), .val (.ref (own_f7 ((((p3.toUInt32 >>> ((3 : Int32) &&& 31).toUInt32).toInt32) &&& (7 : Int32)) % (5 : Int32)) s_INTERNAL s_CLIENT s_SERVER s_PRODUCER s_CONSUMER)), .val (.ref b56), .val (.ref b66)] [(.ref b25), (.ref b25)])) _
      refine Jvm.RoadKit.acmp (g := (mkF m 247 #[.val (.int p1), .val (.int p2), .val (.int p3), .val (.long q4), .second, .val (.long q5), .second, .val (.ref b6), .val (.ref b7), .val (.ref b12), .val (.ref b15), .val (.ref b20), .val (.ref b25), .val (.ref b32), .val (.int (if (p3 &&& (1 : Int32)) = (0 : Int32) then (0 : Int32) else (1 : Int32))), .val (.int (if (p3 &&& (2 : Int32)) = (0 : Int32) then (0 : Int32) else (1 : Int32))), .val (.int (if (p3 &&& (4 : Int32)) = (0 : Int32) then (0 : Int32) else (1 : Int32))), .val (.ref (own_f7 ((((p3.toUInt32 >>> ((3 : Int32) &&& 31).toUInt32).toInt32) &&& (7 : Int32)) % (5 : Int32)) s_INTERNAL s_CLIENT s_SERVER s_PRODUCER s_CONSUMER)), .val (.ref b56), .val (.ref b66)] [(.ref b25), (.ref b25)])) X86 hx rfl rfl rfl (pc0 := 247) (pc' := 250) (same := true) rfl (hb hby at_247) rfl (decide_eq_true rfl) (by decide) (by decide) ?_
      show Steps p.tables e below (T86.setTop (mkF m 250 #[.val (.int p1), .val (.int p2), .val (.int p3), .val (.long q4), .second, .val (.long q5), .second, .val (.ref b6), .val (.ref b7), .val (.ref b12), .val (.ref b15), .val (.ref b20), .val (.ref b25), .val (.ref b32), .val (.int (if (p3 &&& (1 : Int32)) = (0 : Int32) then (0 : Int32) else (1 : Int32))), .val (.int (if (p3 &&& (2 : Int32)) = (0 : Int32) then (0 : Int32) else (1 : Int32))), .val (.int (if (p3 &&& (4 : Int32)) = (0 : Int32) then (0 : Int32) else (1 : Int32))), .val (.ref (own_f7 ((((p3.toUInt32 >>> ((3 : Int32) &&& 31).toUInt32).toInt32) &&& (7 : Int32)) % (5 : Int32)) s_INTERNAL s_CLIENT s_SERVER s_PRODUCER s_CONSUMER)), .val (.ref b56), .val (.ref b66)] [])) _
      refine XS.aload X86.here hx rfl (hb hby at_250) rfl rfl ?_
      show Steps p.tables e below (T86.setTop (mkF m 252 #[.val (.int p1), .val (.int p2), .val (.int p3), .val (.long q4), .second, .val (.long q5), .second, .val (.ref b6), .val (.ref b7), .val (.ref b12), .val (.ref b15), .val (.ref b20), .val (.ref b25), .val (.ref b32), .val (.int (if (p3 &&& (1 : Int32)) = (0 : Int32) then (0 : Int32) else (1 : Int32))), .val (.int (if (p3 &&& (2 : Int32)) = (0 : Int32) then (0 : Int32) else (1 : Int32))), .val (.int (if (p3 &&& (4 : Int32)) = (0 : Int32) then (0 : Int32) else (1 : Int32))), .val (.ref (own_f7 ((((p3.toUInt32 >>> ((3 : Int32) &&& 31).toUInt32).toInt32) &&& (7 : Int32)) % (5 : Int32)) s_INTERNAL s_CLIENT s_SERVER s_PRODUCER s_CONSUMER)), .val (.ref b56), .val (.ref b66)] [(.ref b66)])) _
      refine st88.trans ?_
      show Steps p.tables e below (T88.setTop (mkF m 255 #[.val (.int p1), .val (.int p2), .val (.int p3), .val (.long q4), .second, .val (.long q5), .second, .val (.ref b6), .val (.ref b7), .val (.ref b12), .val (.ref b15), .val (.ref b20), .val (.ref b25), .val (.ref b32), .val (.int (if (p3 &&& (1 : Int32)) = (0 : Int32) then (0 : Int32) else (1 : Int32))), .val (.int (if (p3 &&& (2 : Int32)) = (0 : Int32) then (0 : Int32) else (1 : Int32))), .val (.int (if (p3 &&& (4 : Int32)) = (0 : Int32) then (0 : Int32) else (1 : Int32))), .val (.ref (own_f7 ((((p3.toUInt32 >>> ((3 : Int32) &&& 31).toUInt32).toInt32) &&& (7 : Int32)) % (5 : Int32)) s_INTERNAL s_CLIENT s_SERVER s_PRODUCER s_CONSUMER)), .val (.ref b56), .val (.ref b66)] [(.int (nar .boolean (nar .boolean (nar .boolean (if (p3 &&& (4 : Int32)) = (0 : Int32) then (0 : Int32) else (1 : Int32))))))])) _
      refine XS.iload X88.here hx rfl (hb hby at_255) rfl ?_
      show Steps p.tables e below (T88.setTop (mkF m 257 #[.val (.int p1), .val (.int p2), .val (.int p3), .val (.long q4), .second, .val (.long q5), .second, .val (.ref b6), .val (.ref b7), .val (.ref b12), .val (.ref b15), .val (.ref b20), .val (.ref b25), .val (.ref b32), .val (.int (if (p3 &&& (1 : Int32)) = (0 : Int32) then (0 : Int32) else (1 : Int32))), .val (.int (if (p3 &&& (2 : Int32)) = (0 : Int32) then (0 : Int32) else (1 : Int32))), .val (.int (if (p3 &&& (4 : Int32)) = (0 : Int32) then (0 : Int32) else (1 : Int32))), .val (.ref (own_f7 ((((p3.toUInt32 >>> ((3 : Int32) &&& 31).toUInt32).toInt32) &&& (7 : Int32)) % (5 : Int32)) s_INTERNAL s_CLIENT s_SERVER s_PRODUCER s_CONSUMER)), .val (.ref b56), .val (.ref b66)] [(.int (if (p3 &&& (4 : Int32)) = (0 : Int32) then (0 : Int32) else (1 : Int32))), (.int (nar .boolean (nar .boolean (nar .boolean (if (p3 &&& (4 : Int32)) = (0 : Int32) then (0 : Int32) else (1 : Int32))))))])) _
      refine XS.icmpNo X88.here hx rfl (hb hby at_257) rfl (teq (by simp only [own_narN, own_narIf] : (nar .boolean (nar .boolean (nar .boolean (if (p3 &&& (4 : Int32)) = (0 : Int32) then (0 : Int32) else (1 : Int32))))) = (if (p3 &&& (4 : Int32)) = (0 : Int32) then (0 : Int32) else (1 : Int32)))).2 ?_
      show Steps p.tables e below (T88.setTop (mkF m 260 #[.val (.int p1), .val (.int p2), .val (.int p3), .val (.long q4), .second, .val (.long q5), .second, .val (.ref b6), .val (.ref b7), .val (.ref b12), .val (.ref b15), .val (.ref b20), .val (.ref b25), .val (.ref b32), .val (.int (if (p3 &&& (1 : Int32)) = (0 : Int32) then (0 : Int32) else (1 : Int32))), .val (.int (if (p3 &&& (2 : Int32)) = (0 : Int32) then (0 : Int32) else (1 : Int32))), .val (.int (if (p3 &&& (4 : Int32)) = (0 : Int32) then (0 : Int32) else (1 : Int32))), .val (.ref (own_f7 ((((p3.toUInt32 >>> ((3 : Int32) &&& 31).toUInt32).toInt32) &&& (7 : Int32)) % (5 : Int32)) s_INTERNAL s_CLIENT s_SERVER s_PRODUCER s_CONSUMER)), .val (.ref b56), .val (.ref b66)] [])) _
      refine XS.aload X88.here hx rfl (hb hby at_260) rfl rfl ?_
      show Steps p.tables e below (T88.setTop (mkF m 262 #[.val (.int p1), .val (.int p2), .val (.int p3), .val (.long q4), .second, .val (.long q5), .second, .val (.ref b6), .val (.ref b7), .val (.ref b12), .val (.ref b15), .val (.ref b20), .val (.ref b25), .val (.ref b32), .val (.int (if (p3 &&& (1 : Int32)) = (0 : Int32) then (0 : Int32) else (1 : Int32))), .val (.int (if (p3 &&& (2 : Int32)) = (0 : Int32) then (0 : Int32) else (1 : Int32))), .val (.int (if (p3 &&& (4 : Int32)) = (0 : Int32) then (0 : Int32) else (1 : Int32))), .val (.ref (own_f7 ((((p3.toUInt32 >>> ((3 : Int32) &&& 31).toUInt32).toInt32) &&& (7 : Int32)) % (5 : Int32)) s_INTERNAL s_CLIENT s_SERVER s_PRODUCER s_CONSUMER)), .val (.ref b56), .val (.ref b66)] [(.ref b66)])) _
      refine st89.trans ?_
      exact k
    obtain ⟨cq91, kq91, q91a, q91b, q91c⟩ := isOf hZ e89 A66
    obtain ⟨_, _, ⟨T91, L91, k91, n91⟩, -, X91, ⟨Lc91, hQ91, l91, y91, z91⟩, st91⟩ := X89.virtualBack hx (y := (⟨"com/example/longpole/longpole/Span", "durationMicros", "()J"⟩ : MethodName)) (z := (⟨"com/example/longpole/longpole/Span", "durationMicros", "()J"⟩ : MethodName)) hown (mvT hZ (hw _ (List.mem_of_getElem? (i := 134) rfl))) (mvT hZ (hw _ (List.mem_of_getElem? (i := 135) rfl))) (notFace_of_selects (args := #[]) (mvT hZ (hw _ (List.mem_of_getElem? (i := 137) rfl)))) (mvT hZ (hw _ (List.mem_of_getElem? (i := 137) rfl))) (mvT hZ (hw _ (List.mem_of_getElem? (i := 136) rfl))) (by decide) (backOf (W := 0) (rm22 l Z a0 hw [] b66 q5 T66.heap n0 Z66 G66_durationMicros) hZ (hw _ (List.mem_of_getElem? (i := 138) rfl)) (hw _ (List.mem_of_getElem? (i := 38) rfl)) (by decide) (by decide)) q91a q91c (g := (mkF m 272 #[.val (.int p1), .val (.int p2), .val (.int p3), .val (.long q4), .second, .val (.long q5), .second, .val (.ref b6), .val (.ref b7), .val (.ref b12), .val (.ref b15), .val (.ref b20), .val (.ref b25), .val (.ref b32), .val (.int (if (p3 &&& (1 : Int32)) = (0 : Int32) then (0 : Int32) else (1 : Int32))), .val (.int (if (p3 &&& (2 : Int32)) = (0 : Int32) then (0 : Int32) else (1 : Int32))), .val (.int (if (p3 &&& (4 : Int32)) = (0 : Int32) then (0 : Int32) else (1 : Int32))), .val (.ref (own_f7 ((((p3.toUInt32 >>> ((3 : Int32) &&& 31).toUInt32).toInt32) &&& (7 : Int32)) % (5 : Int32)) s_INTERNAL s_CLIENT s_SERVER s_PRODUCER s_CONSUMER)), .val (.ref b56), .val (.ref b66)] [(.ref b66)])) rfl (by rw [hml]; rfl) (Steps.refl _) (argsL := []) (rest := []) (lenOf pd_0_7 rfl) rfl (by show 2 * 0 + _ ≤ _; exact Nat.le_of_eq rfl) (hb hby at_272) (fun _ _ => ⟨rfl, e89, (by decide : 16 + 0 ≤ _), (by decide : 59 + 0 ≤ _)⟩)
    dsimp only [Pt.U, Pt.locs, Pt.cells, Pt.slots] at X91 l91 y91 z91 st91 hQ91
    replace y91 : k91 = 16 := y91
    replace z91 : n91 = 59 := z91
    subst y91 z91
    obtain ⟨rfl, N91q, e91⟩ := hQ91
    have N91 : Fr n0 L91 := by rw [l91]; exact Fr.app N89 N91q
    have pr92 : ∀ t, Steps p.tables e below (T91.setTop (mkF m 281 #[.val (.int p1), .val (.int p2), .val (.int p3), .val (.long q4), .second, .val (.long q5), .second, .val (.ref b6), .val (.ref b7), .val (.ref b12), .val (.ref b15), .val (.ref b20), .val (.ref b25), .val (.ref b32), .val (.int (if (p3 &&& (1 : Int32)) = (0 : Int32) then (0 : Int32) else (1 : Int32))), .val (.int (if (p3 &&& (2 : Int32)) = (0 : Int32) then (0 : Int32) else (1 : Int32))), .val (.int (if (p3 &&& (4 : Int32)) = (0 : Int32) then (0 : Int32) else (1 : Int32))), .val (.ref (own_f7 ((((p3.toUInt32 >>> ((3 : Int32) &&& 31).toUInt32).toInt32) &&& (7 : Int32)) % (5 : Int32)) s_INTERNAL s_CLIENT s_SERVER s_PRODUCER s_CONSUMER)), .val (.ref b56), .val (.ref b66)] [])) t → Steps p.tables e below (s₁.setTop (entryFrame m #[(.int p1), (.int p2), (.int p3), (.long q4), (.long q5)] maxLocals)) t := by
      intro t k
      refine pr90 t ?_
      show Steps p.tables e below (T89.setTop (mkF m 265 #[.val (.int p1), .val (.int p2), .val (.int p3), .val (.long q4), .second, .val (.long q5), .second, .val (.ref b6), .val (.ref b7), .val (.ref b12), .val (.ref b15), .val (.ref b20), .val (.ref b25), .val (.ref b32), .val (.int (if (p3 &&& (1 : Int32)) = (0 : Int32) then (0 : Int32) else (1 : Int32))), .val (.int (if (p3 &&& (2 : Int32)) = (0 : Int32) then (0 : Int32) else (1 : Int32))), .val (.int (if (p3 &&& (4 : Int32)) = (0 : Int32) then (0 : Int32) else (1 : Int32))), .val (.ref (own_f7 ((((p3.toUInt32 >>> ((3 : Int32) &&& 31).toUInt32).toInt32) &&& (7 : Int32)) % (5 : Int32)) s_INTERNAL s_CLIENT s_SERVER s_PRODUCER s_CONSUMER)), .val (.ref b56), .val (.ref b66)] [(.long q4)])) _
      refine XS.lloadN X89.here hx rfl (hb hby at_265) rfl ?_
      show Steps p.tables e below (T89.setTop (mkF m 266 #[.val (.int p1), .val (.int p2), .val (.int p3), .val (.long q4), .second, .val (.long q5), .second, .val (.ref b6), .val (.ref b7), .val (.ref b12), .val (.ref b15), .val (.ref b20), .val (.ref b25), .val (.ref b32), .val (.int (if (p3 &&& (1 : Int32)) = (0 : Int32) then (0 : Int32) else (1 : Int32))), .val (.int (if (p3 &&& (2 : Int32)) = (0 : Int32) then (0 : Int32) else (1 : Int32))), .val (.int (if (p3 &&& (4 : Int32)) = (0 : Int32) then (0 : Int32) else (1 : Int32))), .val (.ref (own_f7 ((((p3.toUInt32 >>> ((3 : Int32) &&& 31).toUInt32).toInt32) &&& (7 : Int32)) % (5 : Int32)) s_INTERNAL s_CLIENT s_SERVER s_PRODUCER s_CONSUMER)), .val (.ref b56), .val (.ref b66)] [(.long q4), (.long q4)])) _
      refine XS.lcmp X89.here hx rfl (hb hby at_266) rfl ?_
      show Steps p.tables e below (T89.setTop (mkF m 267 #[.val (.int p1), .val (.int p2), .val (.int p3), .val (.long q4), .second, .val (.long q5), .second, .val (.ref b6), .val (.ref b7), .val (.ref b12), .val (.ref b15), .val (.ref b20), .val (.ref b25), .val (.ref b32), .val (.int (if (p3 &&& (1 : Int32)) = (0 : Int32) then (0 : Int32) else (1 : Int32))), .val (.int (if (p3 &&& (2 : Int32)) = (0 : Int32) then (0 : Int32) else (1 : Int32))), .val (.int (if (p3 &&& (4 : Int32)) = (0 : Int32) then (0 : Int32) else (1 : Int32))), .val (.ref (own_f7 ((((p3.toUInt32 >>> ((3 : Int32) &&& 31).toUInt32).toInt32) &&& (7 : Int32)) % (5 : Int32)) s_INTERNAL s_CLIENT s_SERVER s_PRODUCER s_CONSUMER)), .val (.ref b56), .val (.ref b66)] [(.int (lcmpW q4 q4))])) _
      refine XS.ifNo X89.here hx rfl (hb hby at_267) rfl ((if0 _ _).trans (teq ((lw_eq _ _).mpr rfl : (lcmpW q4 q4) = (0 : Int32))).2) ?_
      show Steps p.tables e below (T89.setTop (mkF m 270 #[.val (.int p1), .val (.int p2), .val (.int p3), .val (.long q4), .second, .val (.long q5), .second, .val (.ref b6), .val (.ref b7), .val (.ref b12), .val (.ref b15), .val (.ref b20), .val (.ref b25), .val (.ref b32), .val (.int (if (p3 &&& (1 : Int32)) = (0 : Int32) then (0 : Int32) else (1 : Int32))), .val (.int (if (p3 &&& (2 : Int32)) = (0 : Int32) then (0 : Int32) else (1 : Int32))), .val (.int (if (p3 &&& (4 : Int32)) = (0 : Int32) then (0 : Int32) else (1 : Int32))), .val (.ref (own_f7 ((((p3.toUInt32 >>> ((3 : Int32) &&& 31).toUInt32).toInt32) &&& (7 : Int32)) % (5 : Int32)) s_INTERNAL s_CLIENT s_SERVER s_PRODUCER s_CONSUMER)), .val (.ref b56), .val (.ref b66)] [])) _
      refine XS.aload X89.here hx rfl (hb hby at_270) rfl rfl ?_
      show Steps p.tables e below (T89.setTop (mkF m 272 #[.val (.int p1), .val (.int p2), .val (.int p3), .val (.long q4), .second, .val (.long q5), .second, .val (.ref b6), .val (.ref b7), .val (.ref b12), .val (.ref b15), .val (.ref b20), .val (.ref b25), .val (.ref b32), .val (.int (if (p3 &&& (1 : Int32)) = (0 : Int32) then (0 : Int32) else (1 : Int32))), .val (.int (if (p3 &&& (2 : Int32)) = (0 : Int32) then (0 : Int32) else (1 : Int32))), .val (.int (if (p3 &&& (4 : Int32)) = (0 : Int32) then (0 : Int32) else (1 : Int32))), .val (.ref (own_f7 ((((p3.toUInt32 >>> ((3 : Int32) &&& 31).toUInt32).toInt32) &&& (7 : Int32)) % (5 : Int32)) s_INTERNAL s_CLIENT s_SERVER s_PRODUCER s_CONSUMER)), .val (.ref b56), .val (.ref b66)] [(.ref b66)])) _
      refine st91.trans ?_
      show Steps p.tables e below (T91.setTop (mkF m 275 #[.val (.int p1), .val (.int p2), .val (.int p3), .val (.long q4), .second, .val (.long q5), .second, .val (.ref b6), .val (.ref b7), .val (.ref b12), .val (.ref b15), .val (.ref b20), .val (.ref b25), .val (.ref b32), .val (.int (if (p3 &&& (1 : Int32)) = (0 : Int32) then (0 : Int32) else (1 : Int32))), .val (.int (if (p3 &&& (2 : Int32)) = (0 : Int32) then (0 : Int32) else (1 : Int32))), .val (.int (if (p3 &&& (4 : Int32)) = (0 : Int32) then (0 : Int32) else (1 : Int32))), .val (.ref (own_f7 ((((p3.toUInt32 >>> ((3 : Int32) &&& 31).toUInt32).toInt32) &&& (7 : Int32)) % (5 : Int32)) s_INTERNAL s_CLIENT s_SERVER s_PRODUCER s_CONSUMER)), .val (.ref b56), .val (.ref b66)] [(.long q5)])) _
      refine XS.lload X91.here hx rfl (hb hby at_275) rfl ?_
      show Steps p.tables e below (T91.setTop (mkF m 277 #[.val (.int p1), .val (.int p2), .val (.int p3), .val (.long q4), .second, .val (.long q5), .second, .val (.ref b6), .val (.ref b7), .val (.ref b12), .val (.ref b15), .val (.ref b20), .val (.ref b25), .val (.ref b32), .val (.int (if (p3 &&& (1 : Int32)) = (0 : Int32) then (0 : Int32) else (1 : Int32))), .val (.int (if (p3 &&& (2 : Int32)) = (0 : Int32) then (0 : Int32) else (1 : Int32))), .val (.int (if (p3 &&& (4 : Int32)) = (0 : Int32) then (0 : Int32) else (1 : Int32))), .val (.ref (own_f7 ((((p3.toUInt32 >>> ((3 : Int32) &&& 31).toUInt32).toInt32) &&& (7 : Int32)) % (5 : Int32)) s_INTERNAL s_CLIENT s_SERVER s_PRODUCER s_CONSUMER)), .val (.ref b56), .val (.ref b66)] [(.long q5), (.long q5)])) _
      refine XS.lcmp X91.here hx rfl (hb hby at_277) rfl ?_
      show Steps p.tables e below (T91.setTop (mkF m 278 #[.val (.int p1), .val (.int p2), .val (.int p3), .val (.long q4), .second, .val (.long q5), .second, .val (.ref b6), .val (.ref b7), .val (.ref b12), .val (.ref b15), .val (.ref b20), .val (.ref b25), .val (.ref b32), .val (.int (if (p3 &&& (1 : Int32)) = (0 : Int32) then (0 : Int32) else (1 : Int32))), .val (.int (if (p3 &&& (2 : Int32)) = (0 : Int32) then (0 : Int32) else (1 : Int32))), .val (.int (if (p3 &&& (4 : Int32)) = (0 : Int32) then (0 : Int32) else (1 : Int32))), .val (.ref (own_f7 ((((p3.toUInt32 >>> ((3 : Int32) &&& 31).toUInt32).toInt32) &&& (7 : Int32)) % (5 : Int32)) s_INTERNAL s_CLIENT s_SERVER s_PRODUCER s_CONSUMER)), .val (.ref b56), .val (.ref b66)] [(.int (lcmpW q5 q5))])) _
      refine XS.ifNo X91.here hx rfl (hb hby at_278) rfl ((if0 _ _).trans (teq ((lw_eq _ _).mpr rfl : (lcmpW q5 q5) = (0 : Int32))).2) ?_
      exact k
    obtain ⟨fs, hr, hrun, hended, hW, hsame⟩ := X91.leave (v := some (.int (1 : Int32))) (fun h => by rw [Bd.returns] at h; cases h)
    refine ⟨_, _, pr92 _ ?_, hrun, hended, _, _, rfl, ?_, ⟨_, rfl⟩, hW, hsame.mono (by decide) (by decide)⟩
    · show Steps p.tables e below (T91.setTop (mkF m 281 #[.val (.int p1), .val (.int p2), .val (.int p3), .val (.long q4), .second, .val (.long q5), .second, .val (.ref b6), .val (.ref b7), .val (.ref b12), .val (.ref b15), .val (.ref b20), .val (.ref b25), .val (.ref b32), .val (.int (if (p3 &&& (1 : Int32)) = (0 : Int32) then (0 : Int32) else (1 : Int32))), .val (.int (if (p3 &&& (2 : Int32)) = (0 : Int32) then (0 : Int32) else (1 : Int32))), .val (.int (if (p3 &&& (4 : Int32)) = (0 : Int32) then (0 : Int32) else (1 : Int32))), .val (.ref (own_f7 ((((p3.toUInt32 >>> ((3 : Int32) &&& 31).toUInt32).toInt32) &&& (7 : Int32)) % (5 : Int32)) s_INTERNAL s_CLIENT s_SERVER s_PRODUCER s_CONSUMER)), .val (.ref b56), .val (.ref b66)] [])) _
      refine XS.iconst X91.here hx rfl (hb hby at_281) ?_
      show Steps p.tables e below (T91.setTop (mkF m 282 #[.val (.int p1), .val (.int p2), .val (.int p3), .val (.long q4), .second, .val (.long q5), .second, .val (.ref b6), .val (.ref b7), .val (.ref b12), .val (.ref b15), .val (.ref b20), .val (.ref b25), .val (.ref b32), .val (.int (if (p3 &&& (1 : Int32)) = (0 : Int32) then (0 : Int32) else (1 : Int32))), .val (.int (if (p3 &&& (2 : Int32)) = (0 : Int32) then (0 : Int32) else (1 : Int32))), .val (.int (if (p3 &&& (4 : Int32)) = (0 : Int32) then (0 : Int32) else (1 : Int32))), .val (.ref (own_f7 ((((p3.toUInt32 >>> ((3 : Int32) &&& 31).toUInt32).toInt32) &&& (7 : Int32)) % (5 : Int32)) s_INTERNAL s_CLIENT s_SERVER s_PRODUCER s_CONSUMER)), .val (.ref b56), .val (.ref b66)] [(.int (1 : Int32))])) _
      refine XS.goto X91.here hx rfl (pc0 := 282) (pc' := 286) rfl (hb hby at_282) (by decide) (by decide) ?_
      show Steps p.tables e below (T91.setTop (mkF m 286 #[.val (.int p1), .val (.int p2), .val (.int p3), .val (.long q4), .second, .val (.long q5), .second, .val (.ref b6), .val (.ref b7), .val (.ref b12), .val (.ref b15), .val (.ref b20), .val (.ref b25), .val (.ref b32), .val (.int (if (p3 &&& (1 : Int32)) = (0 : Int32) then (0 : Int32) else (1 : Int32))), .val (.int (if (p3 &&& (2 : Int32)) = (0 : Int32) then (0 : Int32) else (1 : Int32))), .val (.int (if (p3 &&& (4 : Int32)) = (0 : Int32) then (0 : Int32) else (1 : Int32))), .val (.ref (own_f7 ((((p3.toUInt32 >>> ((3 : Int32) &&& 31).toUInt32).toInt32) &&& (7 : Int32)) % (5 : Int32)) s_INTERNAL s_CLIENT s_SERVER s_PRODUCER s_CONSUMER)), .val (.ref b56), .val (.ref b66)] [(.int (1 : Int32))])) _
      exact retN X91 hx (t := .boolean) Bd.returns (by simp) (hb hby at_286) hr
    · show Q0 Z p1 p2 p3 q4 q5 s_COMPACT_STRINGS s_INTERNAL s_CLIENT s_SERVER s_PRODUCER s_CONSUMER h0 n0 _ T91.heap _
      rw [e91]
      exact ⟨rfl, N91⟩
  · have f94 := (own_staKeep f8 K7 all0)
    obtain ⟨_, _, ⟨T93, L93, k93, n93⟩, -, X93, ⟨Lc93, hQ93, l93, y93, z93⟩, st93⟩ := Jvm.LawKit.callS X7 hx (y := (⟨"com/example/longpole/longpole/SpanWithServicePinLaw", "str", "(II)Ljava/lang/String;"⟩ : MethodName)) hown (mvT hZ (hw _ (List.mem_of_getElem? (i := 0) rfl))) (mvT hZ (hw _ (List.mem_of_getElem? (i := 1) rfl))) (mvT hZ (hw _ (List.mem_of_getElem? (i := 2) rfl))) (mvT hZ (hw _ (List.mem_of_getElem? (i := 3) rfl))) (by decide) (backOf (W := 0) (rm1 l Z a0 hw [] p1 (24 : Int32) s_COMPACT_STRINGS T7.heap n0 Z7 f94 hq_1_hq_2_hq3_1) hZ (hw _ (List.mem_of_getElem? (i := 3) rfl)) (hw _ (List.mem_of_getElem? (i := 2) rfl)) (by decide) (by decide)) (g := (mkF m 39 #[.val (.int p1), .val (.int p2), .val (.int p3), .val (.long q4), .second, .val (.long q5), .second, .val (.ref b6), .val (.ref b7), .val .null, .unset, .unset, .unset, .unset, .unset, .unset, .unset, .unset, .unset, .unset] [(.int (24 : Int32)), (.int p1)])) rfl (by rw [hml]; rfl) (argsL := [(.int p1), (.int (24 : Int32))]) (rest := []) (lenOf pd_0_0 rfl) rfl (by show 2 * 0 + _ ≤ _; exact Nat.le_of_eq rfl) (hb hby at_39) (fun _ _ => ⟨rfl, rfl, (by decide : 4 + 2 ≤ _), (by decide : 10 + 5 ≤ _)⟩)
    dsimp only [Pt.U, Pt.locs, Pt.cells, Pt.slots] at X93 l93 y93 z93 st93 hQ93
    replace y93 : k93 = 6 := y93
    replace z93 : n93 = 15 := z93
    subst y93 z93
    have f95 := (Exa.keep A6 K7)
    obtain ⟨rfl, N93q, K93, A93⟩ := hQ93
    have N93 : Fr n0 L93 := by rw [l93]; exact Fr.app N7 N93q
    obtain ⟨b93, g93⟩ : ∃ z, z = T7.heap.size := ⟨_, rfl⟩
    rw [← g93] at st93 A93
    have g_b93 : n0 ≤ b93 := Nat.le_trans Z7 (Nat.le_of_eq g93.symm)
    have sz_b93 : h0.size ≤ b93 := Nat.le_trans KK7.1 (Nat.le_of_eq g93.symm)
    have Z93 : n0 ≤ T93.heap.size := Nat.le_trans Z7 K93.1
    have KK93 := Keep.trans KK7 K93 all0
    have pr96 : ∀ t, Steps p.tables e below (T93.setTop (mkF m 44 #[.val (.int p1), .val (.int p2), .val (.int p3), .val (.long q4), .second, .val (.long q5), .second, .val (.ref b6), .val (.ref b7), .val .null, .val (.ref b93), .unset, .unset, .unset, .unset, .unset, .unset, .unset, .unset, .unset] [])) t → Steps p.tables e below (s₁.setTop (entryFrame m #[(.int p1), (.int p2), (.int p3), (.long q4), (.long q5)] maxLocals)) t := by
      intro t k
      refine pr11 t ?_
      show Steps p.tables e below (T7.setTop (mkF m 21 #[.val (.int p1), .val (.int p2), .val (.int p3), .val (.long q4), .second, .val (.long q5), .second, .val (.ref b6), .val (.ref b7), .unset, .unset, .unset, .unset, .unset, .unset, .unset, .unset, .unset, .unset, .unset] [(.int (((p3.toUInt32 >>> ((6 : Int32) &&& 31).toUInt32).toInt32) &&& (1 : Int32)))])) _
      refine XS.ifNo X7.here hx rfl (hb hby at_21) rfl ((if0 _ _).trans (feq hc10).1) ?_
      show Steps p.tables e below (T7.setTop (mkF m 24 #[.val (.int p1), .val (.int p2), .val (.int p3), .val (.long q4), .second, .val (.long q5), .second, .val (.ref b6), .val (.ref b7), .unset, .unset, .unset, .unset, .unset, .unset, .unset, .unset, .unset, .unset, .unset] [])) _
      refine XS.aconstNull X7.here hx rfl (hb hby at_24) ?_
      show Steps p.tables e below (T7.setTop (mkF m 25 #[.val (.int p1), .val (.int p2), .val (.int p3), .val (.long q4), .second, .val (.long q5), .second, .val (.ref b6), .val (.ref b7), .unset, .unset, .unset, .unset, .unset, .unset, .unset, .unset, .unset, .unset, .unset] [.null])) _
      refine XS.goto X7.here hx rfl (pc0 := 25) (pc' := 34) rfl (hb hby at_25) (by decide) (by decide) ?_
      show Steps p.tables e below (T7.setTop (mkF m 34 #[.val (.int p1), .val (.int p2), .val (.int p3), .val (.long q4), .second, .val (.long q5), .second, .val (.ref b6), .val (.ref b7), .unset, .unset, .unset, .unset, .unset, .unset, .unset, .unset, .unset, .unset, .unset] [.null])) _
      refine XS.astore X7.here hx rfl (hb hby at_34) rfl rfl (l' := #[.val (.int p1), .val (.int p2), .val (.int p3), .val (.long q4), .second, .val (.long q5), .second, .val (.ref b6), .val (.ref b7), .val .null, .unset, .unset, .unset, .unset, .unset, .unset, .unset, .unset, .unset, .unset]) rfl ?_
      show Steps p.tables e below (T7.setTop (mkF m 36 #[.val (.int p1), .val (.int p2), .val (.int p3), .val (.long q4), .second, .val (.long q5), .second, .val (.ref b6), .val (.ref b7), .val .null, .unset, .unset, .unset, .unset, .unset, .unset, .unset, .unset, .unset, .unset] [])) _
      refine XS.iloadN X7.here hx rfl (hb hby at_36) rfl ?_
      show Steps p.tables e below (T7.setTop (mkF m 37 #[.val (.int p1), .val (.int p2), .val (.int p3), .val (.long q4), .second, .val (.long q5), .second, .val (.ref b6), .val (.ref b7), .val .null, .unset, .unset, .unset, .unset, .unset, .unset, .unset, .unset, .unset, .unset] [(.int p1)])) _
      refine XS.bipush X7.here hx rfl (hb hby at_37) ?_
      show Steps p.tables e below (T7.setTop (mkF m 39 #[.val (.int p1), .val (.int p2), .val (.int p3), .val (.long q4), .second, .val (.long q5), .second, .val (.ref b6), .val (.ref b7), .val .null, .unset, .unset, .unset, .unset, .unset, .unset, .unset, .unset, .unset, .unset] [(.int (24 : Int32)), (.int p1)])) _
      refine st93 _ ?_
      show Steps p.tables e below (T93.setTop (mkF m 42 #[.val (.int p1), .val (.int p2), .val (.int p3), .val (.long q4), .second, .val (.long q5), .second, .val (.ref b6), .val (.ref b7), .val .null, .unset, .unset, .unset, .unset, .unset, .unset, .unset, .unset, .unset, .unset] [(.ref b93)])) _
      refine XS.astore X93.here hx rfl (hb hby at_42) rfl rfl (l' := #[.val (.int p1), .val (.int p2), .val (.int p3), .val (.long q4), .second, .val (.long q5), .second, .val (.ref b6), .val (.ref b7), .val .null, .val (.ref b93), .unset, .unset, .unset, .unset, .unset, .unset, .unset, .unset, .unset]) rfl ?_
      exact k
    have f98 := (own_staKeep f94 K93 all0)
    obtain ⟨_, _, ⟨T97, L97, k97, n97⟩, -, X97, ⟨Lc97, hQ97, l97, y97, z97⟩, st97⟩ := Jvm.LawKit.callS X93 hx (y := (⟨"com/example/longpole/longpole/SpanWithServicePinLaw", "str", "(II)Ljava/lang/String;"⟩ : MethodName)) hown (mvT hZ (hw _ (List.mem_of_getElem? (i := 0) rfl))) (mvT hZ (hw _ (List.mem_of_getElem? (i := 1) rfl))) (mvT hZ (hw _ (List.mem_of_getElem? (i := 2) rfl))) (mvT hZ (hw _ (List.mem_of_getElem? (i := 3) rfl))) (by decide) (backOf (W := 0) (rm1 l Z a0 hw [] p2 (0 : Int32) s_COMPACT_STRINGS T93.heap n0 Z93 f98 hq_1_hq_2_hq3_1) hZ (hw _ (List.mem_of_getElem? (i := 3) rfl)) (hw _ (List.mem_of_getElem? (i := 2) rfl)) (by decide) (by decide)) (g := (mkF m 46 #[.val (.int p1), .val (.int p2), .val (.int p3), .val (.long q4), .second, .val (.long q5), .second, .val (.ref b6), .val (.ref b7), .val .null, .val (.ref b93), .unset, .unset, .unset, .unset, .unset, .unset, .unset, .unset, .unset] [(.int (0 : Int32)), (.int p2)])) rfl (by rw [hml]; rfl) (argsL := [(.int p2), (.int (0 : Int32))]) (rest := []) (lenOf pd_0_0 rfl) rfl (by show 2 * 0 + _ ≤ _; exact Nat.le_of_eq rfl) (hb hby at_46) (fun _ _ => ⟨rfl, rfl, (by decide : 6 + 2 ≤ _), (by decide : 15 + 5 ≤ _)⟩)
    dsimp only [Pt.U, Pt.locs, Pt.cells, Pt.slots] at X97 l97 y97 z97 st97 hQ97
    replace y97 : k97 = 8 := y97
    replace z97 : n97 = 20 := z97
    subst y97 z97
    have f99 := (Exa.keep f95 K93)
    have f100 := (Exa.keep A7 K93)
    obtain ⟨rfl, N97q, K97, A97⟩ := hQ97
    have N97 : Fr n0 L97 := by rw [l97]; exact Fr.app N93 N97q
    obtain ⟨b97, g97⟩ : ∃ z, z = T93.heap.size := ⟨_, rfl⟩
    rw [← g97] at st97 A97
    have g_b97 : n0 ≤ b97 := Nat.le_trans Z93 (Nat.le_of_eq g97.symm)
    have sz_b97 : h0.size ≤ b97 := Nat.le_trans KK93.1 (Nat.le_of_eq g97.symm)
    have Z97 : n0 ≤ T97.heap.size := Nat.le_trans Z93 K97.1
    have KK97 := Keep.trans KK93 K97 all0
    have f102 := (own_staKeep f98 K97 all0)
    obtain ⟨_, _, ⟨T101, L101, k101, n101⟩, -, X101, ⟨Lc101, hQ101, l101, y101, z101⟩, st101⟩ := Jvm.LawKit.callS X97 hx (y := (⟨"com/example/longpole/longpole/SpanWithServicePinLaw", "str", "(II)Ljava/lang/String;"⟩ : MethodName)) hown (mvT hZ (hw _ (List.mem_of_getElem? (i := 0) rfl))) (mvT hZ (hw _ (List.mem_of_getElem? (i := 1) rfl))) (mvT hZ (hw _ (List.mem_of_getElem? (i := 2) rfl))) (mvT hZ (hw _ (List.mem_of_getElem? (i := 3) rfl))) (by decide) (backOf (W := 0) (rm1 l Z a0 hw [] p2 (8 : Int32) s_COMPACT_STRINGS T97.heap n0 Z97 f102 hq_1_hq_2_hq3_1) hZ (hw _ (List.mem_of_getElem? (i := 3) rfl)) (hw _ (List.mem_of_getElem? (i := 2) rfl)) (by decide) (by decide)) (g := (mkF m 54 #[.val (.int p1), .val (.int p2), .val (.int p3), .val (.long q4), .second, .val (.long q5), .second, .val (.ref b6), .val (.ref b7), .val .null, .val (.ref b93), .val (.ref b97), .unset, .unset, .unset, .unset, .unset, .unset, .unset, .unset] [(.int (8 : Int32)), (.int p2)])) rfl (by rw [hml]; rfl) (argsL := [(.int p2), (.int (8 : Int32))]) (rest := []) (lenOf pd_0_0 rfl) rfl (by show 2 * 0 + _ ≤ _; exact Nat.le_of_eq rfl) (hb hby at_54) (fun _ _ => ⟨rfl, rfl, (by decide : 8 + 2 ≤ _), (by decide : 20 + 5 ≤ _)⟩)
    dsimp only [Pt.U, Pt.locs, Pt.cells, Pt.slots] at X101 l101 y101 z101 st101 hQ101
    replace y101 : k101 = 10 := y101
    replace z101 : n101 = 25 := z101
    subst y101 z101
    have f103 := (Exa.keep f99 K97)
    have f104 := (Exa.keep f100 K97)
    have f105 := (Exa.keep A93 K97)
    obtain ⟨rfl, N101q, K101, A101⟩ := hQ101
    have N101 : Fr n0 L101 := by rw [l101]; exact Fr.app N97 N101q
    obtain ⟨b101, g101⟩ : ∃ z, z = T97.heap.size := ⟨_, rfl⟩
    rw [← g101] at st101 A101
    have g_b101 : n0 ≤ b101 := Nat.le_trans Z97 (Nat.le_of_eq g101.symm)
    have sz_b101 : h0.size ≤ b101 := Nat.le_trans KK97.1 (Nat.le_of_eq g101.symm)
    have Z101 : n0 ≤ T101.heap.size := Nat.le_trans Z97 K101.1
    have KK101 := Keep.trans KK97 K101 all0
    have pr106 : ∀ t, Steps p.tables e below (T101.setTop (mkF m 59 #[.val (.int p1), .val (.int p2), .val (.int p3), .val (.long q4), .second, .val (.long q5), .second, .val (.ref b6), .val (.ref b7), .val .null, .val (.ref b93), .val (.ref b97), .val (.ref b101), .unset, .unset, .unset, .unset, .unset, .unset, .unset] [])) t → Steps p.tables e below (s₁.setTop (entryFrame m #[(.int p1), (.int p2), (.int p3), (.long q4), (.long q5)] maxLocals)) t := by
      intro t k
      refine pr96 t ?_
      show Steps p.tables e below (T93.setTop (mkF m 44 #[.val (.int p1), .val (.int p2), .val (.int p3), .val (.long q4), .second, .val (.long q5), .second, .val (.ref b6), .val (.ref b7), .val .null, .val (.ref b93), .unset, .unset, .unset, .unset, .unset, .unset, .unset, .unset, .unset] [])) _
      refine XS.iloadN X93.here hx rfl (hb hby at_44) rfl ?_
      show Steps p.tables e below (T93.setTop (mkF m 45 #[.val (.int p1), .val (.int p2), .val (.int p3), .val (.long q4), .second, .val (.long q5), .second, .val (.ref b6), .val (.ref b7), .val .null, .val (.ref b93), .unset, .unset, .unset, .unset, .unset, .unset, .unset, .unset, .unset] [(.int p2)])) _
      refine XS.iconst X93.here hx rfl (hb hby at_45) ?_
      show Steps p.tables e below (T93.setTop (mkF m 46 #[.val (.int p1), .val (.int p2), .val (.int p3), .val (.long q4), .second, .val (.long q5), .second, .val (.ref b6), .val (.ref b7), .val .null, .val (.ref b93), .unset, .unset, .unset, .unset, .unset, .unset, .unset, .unset, .unset] [(.int (0 : Int32)), (.int p2)])) _
      refine st97 _ ?_
      show Steps p.tables e below (T97.setTop (mkF m 49 #[.val (.int p1), .val (.int p2), .val (.int p3), .val (.long q4), .second, .val (.long q5), .second, .val (.ref b6), .val (.ref b7), .val .null, .val (.ref b93), .unset, .unset, .unset, .unset, .unset, .unset, .unset, .unset, .unset] [(.ref b97)])) _
      refine XS.astore X97.here hx rfl (hb hby at_49) rfl rfl (l' := #[.val (.int p1), .val (.int p2), .val (.int p3), .val (.long q4), .second, .val (.long q5), .second, .val (.ref b6), .val (.ref b7), .val .null, .val (.ref b93), .val (.ref b97), .unset, .unset, .unset, .unset, .unset, .unset, .unset, .unset]) rfl ?_
      show Steps p.tables e below (T97.setTop (mkF m 51 #[.val (.int p1), .val (.int p2), .val (.int p3), .val (.long q4), .second, .val (.long q5), .second, .val (.ref b6), .val (.ref b7), .val .null, .val (.ref b93), .val (.ref b97), .unset, .unset, .unset, .unset, .unset, .unset, .unset, .unset] [])) _
      refine XS.iloadN X97.here hx rfl (hb hby at_51) rfl ?_
      show Steps p.tables e below (T97.setTop (mkF m 52 #[.val (.int p1), .val (.int p2), .val (.int p3), .val (.long q4), .second, .val (.long q5), .second, .val (.ref b6), .val (.ref b7), .val .null, .val (.ref b93), .val (.ref b97), .unset, .unset, .unset, .unset, .unset, .unset, .unset, .unset] [(.int p2)])) _
      refine XS.bipush X97.here hx rfl (hb hby at_52) ?_
      show Steps p.tables e below (T97.setTop (mkF m 54 #[.val (.int p1), .val (.int p2), .val (.int p3), .val (.long q4), .second, .val (.long q5), .second, .val (.ref b6), .val (.ref b7), .val .null, .val (.ref b93), .val (.ref b97), .unset, .unset, .unset, .unset, .unset, .unset, .unset, .unset] [(.int (8 : Int32)), (.int p2)])) _
      refine st101 _ ?_
      show Steps p.tables e below (T101.setTop (mkF m 57 #[.val (.int p1), .val (.int p2), .val (.int p3), .val (.long q4), .second, .val (.long q5), .second, .val (.ref b6), .val (.ref b7), .val .null, .val (.ref b93), .val (.ref b97), .unset, .unset, .unset, .unset, .unset, .unset, .unset, .unset] [(.ref b101)])) _
      refine XS.astore X101.here hx rfl (hb hby at_57) rfl rfl (l' := #[.val (.int p1), .val (.int p2), .val (.int p3), .val (.long q4), .second, .val (.long q5), .second, .val (.ref b6), .val (.ref b7), .val .null, .val (.ref b93), .val (.ref b97), .val (.ref b101), .unset, .unset, .unset, .unset, .unset, .unset, .unset]) rfl ?_
      exact k
    have f108 := (own_staKeep f102 K101 all0)
    obtain ⟨_, _, ⟨T107, L107, k107, n107⟩, -, X107, ⟨Lc107, hQ107, l107, y107, z107⟩, st107⟩ := Jvm.LawKit.callS X101 hx (y := (⟨"com/example/longpole/longpole/SpanWithServicePinLaw", "str", "(II)Ljava/lang/String;"⟩ : MethodName)) hown (mvT hZ (hw _ (List.mem_of_getElem? (i := 0) rfl))) (mvT hZ (hw _ (List.mem_of_getElem? (i := 1) rfl))) (mvT hZ (hw _ (List.mem_of_getElem? (i := 2) rfl))) (mvT hZ (hw _ (List.mem_of_getElem? (i := 3) rfl))) (by decide) (backOf (W := 0) (rm1 l Z a0 hw [] p2 (16 : Int32) s_COMPACT_STRINGS T101.heap n0 Z101 f108 hq_1_hq_2_hq3_1) hZ (hw _ (List.mem_of_getElem? (i := 3) rfl)) (hw _ (List.mem_of_getElem? (i := 2) rfl)) (by decide) (by decide)) (g := (mkF m 62 #[.val (.int p1), .val (.int p2), .val (.int p3), .val (.long q4), .second, .val (.long q5), .second, .val (.ref b6), .val (.ref b7), .val .null, .val (.ref b93), .val (.ref b97), .val (.ref b101), .unset, .unset, .unset, .unset, .unset, .unset, .unset] [(.int (16 : Int32)), (.int p2)])) rfl (by rw [hml]; rfl) (argsL := [(.int p2), (.int (16 : Int32))]) (rest := []) (lenOf pd_0_0 rfl) rfl (by show 2 * 0 + _ ≤ _; exact Nat.le_of_eq rfl) (hb hby at_62) (fun _ _ => ⟨rfl, rfl, (by decide : 10 + 2 ≤ _), (by decide : 25 + 5 ≤ _)⟩)
    dsimp only [Pt.U, Pt.locs, Pt.cells, Pt.slots] at X107 l107 y107 z107 st107 hQ107
    replace y107 : k107 = 12 := y107
    replace z107 : n107 = 30 := z107
    subst y107 z107
    have f109 := (Exa.keep f103 K101)
    have f110 := (Exa.keep f104 K101)
    have f111 := (Exa.keep f105 K101)
    have f112 := (Exa.keep A97 K101)
    obtain ⟨rfl, N107q, K107, A107⟩ := hQ107
    have N107 : Fr n0 L107 := by rw [l107]; exact Fr.app N101 N107q
    obtain ⟨b107, g107⟩ : ∃ z, z = T101.heap.size := ⟨_, rfl⟩
    rw [← g107] at st107 A107
    have g_b107 : n0 ≤ b107 := Nat.le_trans Z101 (Nat.le_of_eq g107.symm)
    have sz_b107 : h0.size ≤ b107 := Nat.le_trans KK101.1 (Nat.le_of_eq g107.symm)
    have Z107 : n0 ≤ T107.heap.size := Nat.le_trans Z101 K107.1
    have KK107 := Keep.trans KK101 K107 all0
    have pr113 : ∀ t, Steps p.tables e below (T107.setTop (mkF m 78 #[.val (.int p1), .val (.int p2), .val (.int p3), .val (.long q4), .second, .val (.long q5), .second, .val (.ref b6), .val (.ref b7), .val .null, .val (.ref b93), .val (.ref b97), .val (.ref b101), .val (.ref b107), .unset, .unset, .unset, .unset, .unset, .unset] [(.int (if (p3 &&& (1 : Int32)) = (0 : Int32) then (0 : Int32) else (1 : Int32)))])) t → Steps p.tables e below (s₁.setTop (entryFrame m #[(.int p1), (.int p2), (.int p3), (.long q4), (.long q5)] maxLocals)) t := by
      intro t k
      refine pr106 t ?_
      show Steps p.tables e below (T101.setTop (mkF m 59 #[.val (.int p1), .val (.int p2), .val (.int p3), .val (.long q4), .second, .val (.long q5), .second, .val (.ref b6), .val (.ref b7), .val .null, .val (.ref b93), .val (.ref b97), .val (.ref b101), .unset, .unset, .unset, .unset, .unset, .unset, .unset] [])) _
      refine XS.iloadN X101.here hx rfl (hb hby at_59) rfl ?_
      show Steps p.tables e below (T101.setTop (mkF m 60 #[.val (.int p1), .val (.int p2), .val (.int p3), .val (.long q4), .second, .val (.long q5), .second, .val (.ref b6), .val (.ref b7), .val .null, .val (.ref b93), .val (.ref b97), .val (.ref b101), .unset, .unset, .unset, .unset, .unset, .unset, .unset] [(.int p2)])) _
      refine XS.bipush X101.here hx rfl (hb hby at_60) ?_
      show Steps p.tables e below (T101.setTop (mkF m 62 #[.val (.int p1), .val (.int p2), .val (.int p3), .val (.long q4), .second, .val (.long q5), .second, .val (.ref b6), .val (.ref b7), .val .null, .val (.ref b93), .val (.ref b97), .val (.ref b101), .unset, .unset, .unset, .unset, .unset, .unset, .unset] [(.int (16 : Int32)), (.int p2)])) _
      refine st107 _ ?_
      show Steps p.tables e below (T107.setTop (mkF m 65 #[.val (.int p1), .val (.int p2), .val (.int p3), .val (.long q4), .second, .val (.long q5), .second, .val (.ref b6), .val (.ref b7), .val .null, .val (.ref b93), .val (.ref b97), .val (.ref b101), .unset, .unset, .unset, .unset, .unset, .unset, .unset] [(.ref b107)])) _
      refine XS.astore X107.here hx rfl (hb hby at_65) rfl rfl (l' := #[.val (.int p1), .val (.int p2), .val (.int p3), .val (.long q4), .second, .val (.long q5), .second, .val (.ref b6), .val (.ref b7), .val .null, .val (.ref b93), .val (.ref b97), .val (.ref b101), .val (.ref b107), .unset, .unset, .unset, .unset, .unset, .unset]) rfl ?_
      show Steps p.tables e below (T107.setTop (mkF m 67 #[.val (.int p1), .val (.int p2), .val (.int p3), .val (.long q4), .second, .val (.long q5), .second, .val (.ref b6), .val (.ref b7), .val .null, .val (.ref b93), .val (.ref b97), .val (.ref b101), .val (.ref b107), .unset, .unset, .unset, .unset, .unset, .unset] [])) _
      refine XS.iloadN X107.here hx rfl (hb hby at_67) rfl ?_
      show Steps p.tables e below (T107.setTop (mkF m 68 #[.val (.int p1), .val (.int p2), .val (.int p3), .val (.long q4), .second, .val (.long q5), .second, .val (.ref b6), .val (.ref b7), .val .null, .val (.ref b93), .val (.ref b97), .val (.ref b101), .val (.ref b107), .unset, .unset, .unset, .unset, .unset, .unset] [(.int p3)])) _
      refine XS.iconst X107.here hx rfl (hb hby at_68) ?_
      show Steps p.tables e below (T107.setTop (mkF m 69 #[.val (.int p1), .val (.int p2), .val (.int p3), .val (.long q4), .second, .val (.long q5), .second, .val (.ref b6), .val (.ref b7), .val .null, .val (.ref b93), .val (.ref b97), .val (.ref b101), .val (.ref b107), .unset, .unset, .unset, .unset, .unset, .unset] [(.int (1 : Int32)), (.int p3)])) _
      refine XS.iand X107.here hx rfl (hb hby at_69) rfl ?_
      show Steps p.tables e below (T107.setTop (mkF m 70 #[.val (.int p1), .val (.int p2), .val (.int p3), .val (.long q4), .second, .val (.long q5), .second, .val (.ref b6), .val (.ref b7), .val .null, .val (.ref b93), .val (.ref b97), .val (.ref b101), .val (.ref b107), .unset, .unset, .unset, .unset, .unset, .unset] [(.int (p3 &&& (1 : Int32)))])) _
      by_cases hc114 : (p3 &&& (1 : Int32)) = (0 : Int32)
      · rw [if_pos hc114] at k
        refine XS.ifYes X107.here hx rfl (pc0 := 70) (pc' := 77) rfl (hb hby at_70) rfl ((if0 _ _).trans (teq hc114).1) (by decide) (by decide) ?_
        show Steps p.tables e below (T107.setTop (mkF m 77 #[.val (.int p1), .val (.int p2), .val (.int p3), .val (.long q4), .second, .val (.long q5), .second, .val (.ref b6), .val (.ref b7), .val .null, .val (.ref b93), .val (.ref b97), .val (.ref b101), .val (.ref b107), .unset, .unset, .unset, .unset, .unset, .unset] [])) _
        refine XS.iconst X107.here hx rfl (hb hby at_77) ?_
        exact k
      · rw [if_neg hc114] at k
        refine XS.ifNo X107.here hx rfl (hb hby at_70) rfl ((if0 _ _).trans (feq hc114).1) ?_
        show Steps p.tables e below (T107.setTop (mkF m 73 #[.val (.int p1), .val (.int p2), .val (.int p3), .val (.long q4), .second, .val (.long q5), .second, .val (.ref b6), .val (.ref b7), .val .null, .val (.ref b93), .val (.ref b97), .val (.ref b101), .val (.ref b107), .unset, .unset, .unset, .unset, .unset, .unset] [])) _
        refine XS.iconst X107.here hx rfl (hb hby at_73) ?_
        show Steps p.tables e below (T107.setTop (mkF m 74 #[.val (.int p1), .val (.int p2), .val (.int p3), .val (.long q4), .second, .val (.long q5), .second, .val (.ref b6), .val (.ref b7), .val .null, .val (.ref b93), .val (.ref b97), .val (.ref b101), .val (.ref b107), .unset, .unset, .unset, .unset, .unset, .unset] [(.int (1 : Int32))])) _
        refine XS.goto X107.here hx rfl (pc0 := 74) (pc' := 78) rfl (hb hby at_74) (by decide) (by decide) ?_
        exact k
    have pr116 : ∀ t, Steps p.tables e below (T107.setTop (mkF m 91 #[.val (.int p1), .val (.int p2), .val (.int p3), .val (.long q4), .second, .val (.long q5), .second, .val (.ref b6), .val (.ref b7), .val .null, .val (.ref b93), .val (.ref b97), .val (.ref b101), .val (.ref b107), .val (.int (if (p3 &&& (1 : Int32)) = (0 : Int32) then (0 : Int32) else (1 : Int32))), .unset, .unset, .unset, .unset, .unset] [(.int (if (p3 &&& (2 : Int32)) = (0 : Int32) then (0 : Int32) else (1 : Int32)))])) t → Steps p.tables e below (s₁.setTop (entryFrame m #[(.int p1), (.int p2), (.int p3), (.long q4), (.long q5)] maxLocals)) t := by
      intro t k
      refine pr113 t ?_
      show Steps p.tables e below (T107.setTop (mkF m 78 #[.val (.int p1), .val (.int p2), .val (.int p3), .val (.long q4), .second, .val (.long q5), .second, .val (.ref b6), .val (.ref b7), .val .null, .val (.ref b93), .val (.ref b97), .val (.ref b101), .val (.ref b107), .unset, .unset, .unset, .unset, .unset, .unset] [(.int (if (p3 &&& (1 : Int32)) = (0 : Int32) then (0 : Int32) else (1 : Int32)))])) _
      refine XS.istore X107.here hx rfl (hb hby at_78) rfl (l' := #[.val (.int p1), .val (.int p2), .val (.int p3), .val (.long q4), .second, .val (.long q5), .second, .val (.ref b6), .val (.ref b7), .val .null, .val (.ref b93), .val (.ref b97), .val (.ref b101), .val (.ref b107), .val (.int (if (p3 &&& (1 : Int32)) = (0 : Int32) then (0 : Int32) else (1 : Int32))), .unset, .unset, .unset, .unset, .unset]) rfl ?_
      show Steps p.tables e below (T107.setTop (mkF m 80 #[.val (.int p1), .val (.int p2), .val (.int p3), .val (.long q4), .second, .val (.long q5), .second, .val (.ref b6), .val (.ref b7), .val .null, .val (.ref b93), .val (.ref b97), .val (.ref b101), .val (.ref b107), .val (.int (if (p3 &&& (1 : Int32)) = (0 : Int32) then (0 : Int32) else (1 : Int32))), .unset, .unset, .unset, .unset, .unset] [])) _
      refine XS.iloadN X107.here hx rfl (hb hby at_80) rfl ?_
      show Steps p.tables e below (T107.setTop (mkF m 81 #[.val (.int p1), .val (.int p2), .val (.int p3), .val (.long q4), .second, .val (.long q5), .second, .val (.ref b6), .val (.ref b7), .val .null, .val (.ref b93), .val (.ref b97), .val (.ref b101), .val (.ref b107), .val (.int (if (p3 &&& (1 : Int32)) = (0 : Int32) then (0 : Int32) else (1 : Int32))), .unset, .unset, .unset, .unset, .unset] [(.int p3)])) _
      refine XS.iconst X107.here hx rfl (hb hby at_81) ?_
      show Steps p.tables e below (T107.setTop (mkF m 82 #[.val (.int p1), .val (.int p2), .val (.int p3), .val (.long q4), .second, .val (.long q5), .second, .val (.ref b6), .val (.ref b7), .val .null, .val (.ref b93), .val (.ref b97), .val (.ref b101), .val (.ref b107), .val (.int (if (p3 &&& (1 : Int32)) = (0 : Int32) then (0 : Int32) else (1 : Int32))), .unset, .unset, .unset, .unset, .unset] [(.int (2 : Int32)), (.int p3)])) _
      refine XS.iand X107.here hx rfl (hb hby at_82) rfl ?_
      show Steps p.tables e below (T107.setTop (mkF m 83 #[.val (.int p1), .val (.int p2), .val (.int p3), .val (.long q4), .second, .val (.long q5), .second, .val (.ref b6), .val (.ref b7), .val .null, .val (.ref b93), .val (.ref b97), .val (.ref b101), .val (.ref b107), .val (.int (if (p3 &&& (1 : Int32)) = (0 : Int32) then (0 : Int32) else (1 : Int32))), .unset, .unset, .unset, .unset, .unset] [(.int (p3 &&& (2 : Int32)))])) _
      by_cases hc117 : (p3 &&& (2 : Int32)) = (0 : Int32)
      · rw [if_pos hc117] at k
        refine XS.ifYes X107.here hx rfl (pc0 := 83) (pc' := 90) rfl (hb hby at_83) rfl ((if0 _ _).trans (teq hc117).1) (by decide) (by decide) ?_
        show Steps p.tables e below (T107.setTop (mkF m 90 #[.val (.int p1), .val (.int p2), .val (.int p3), .val (.long q4), .second, .val (.long q5), .second, .val (.ref b6), .val (.ref b7), .val .null, .val (.ref b93), .val (.ref b97), .val (.ref b101), .val (.ref b107), .val (.int (if (p3 &&& (1 : Int32)) = (0 : Int32) then (0 : Int32) else (1 : Int32))), .unset, .unset, .unset, .unset, .unset] [])) _
        refine XS.iconst X107.here hx rfl (hb hby at_90) ?_
        exact k
      · rw [if_neg hc117] at k
        refine XS.ifNo X107.here hx rfl (hb hby at_83) rfl ((if0 _ _).trans (feq hc117).1) ?_
        show Steps p.tables e below (T107.setTop (mkF m 86 #[.val (.int p1), .val (.int p2), .val (.int p3), .val (.long q4), .second, .val (.long q5), .second, .val (.ref b6), .val (.ref b7), .val .null, .val (.ref b93), .val (.ref b97), .val (.ref b101), .val (.ref b107), .val (.int (if (p3 &&& (1 : Int32)) = (0 : Int32) then (0 : Int32) else (1 : Int32))), .unset, .unset, .unset, .unset, .unset] [])) _
        refine XS.iconst X107.here hx rfl (hb hby at_86) ?_
        show Steps p.tables e below (T107.setTop (mkF m 87 #[.val (.int p1), .val (.int p2), .val (.int p3), .val (.long q4), .second, .val (.long q5), .second, .val (.ref b6), .val (.ref b7), .val .null, .val (.ref b93), .val (.ref b97), .val (.ref b101), .val (.ref b107), .val (.int (if (p3 &&& (1 : Int32)) = (0 : Int32) then (0 : Int32) else (1 : Int32))), .unset, .unset, .unset, .unset, .unset] [(.int (1 : Int32))])) _
        refine XS.goto X107.here hx rfl (pc0 := 87) (pc' := 91) rfl (hb hby at_87) (by decide) (by decide) ?_
        exact k
    have pr119 : ∀ t, Steps p.tables e below (T107.setTop (mkF m 104 #[.val (.int p1), .val (.int p2), .val (.int p3), .val (.long q4), .second, .val (.long q5), .second, .val (.ref b6), .val (.ref b7), .val .null, .val (.ref b93), .val (.ref b97), .val (.ref b101), .val (.ref b107), .val (.int (if (p3 &&& (1 : Int32)) = (0 : Int32) then (0 : Int32) else (1 : Int32))), .val (.int (if (p3 &&& (2 : Int32)) = (0 : Int32) then (0 : Int32) else (1 : Int32))), .unset, .unset, .unset, .unset] [(.int (if (p3 &&& (4 : Int32)) = (0 : Int32) then (0 : Int32) else (1 : Int32)))])) t → Steps p.tables e below (s₁.setTop (entryFrame m #[(.int p1), (.int p2), (.int p3), (.long q4), (.long q5)] maxLocals)) t := by
      intro t k
      refine pr116 t ?_
      show Steps p.tables e below (T107.setTop (mkF m 91 #[.val (.int p1), .val (.int p2), .val (.int p3), .val (.long q4), .second, .val (.long q5), .second, .val (.ref b6), .val (.ref b7), .val .null, .val (.ref b93), .val (.ref b97), .val (.ref b101), .val (.ref b107), .val (.int (if (p3 &&& (1 : Int32)) = (0 : Int32) then (0 : Int32) else (1 : Int32))), .unset, .unset, .unset, .unset, .unset] [(.int (if (p3 &&& (2 : Int32)) = (0 : Int32) then (0 : Int32) else (1 : Int32)))])) _
      refine XS.istore X107.here hx rfl (hb hby at_91) rfl (l' := #[.val (.int p1), .val (.int p2), .val (.int p3), .val (.long q4), .second, .val (.long q5), .second, .val (.ref b6), .val (.ref b7), .val .null, .val (.ref b93), .val (.ref b97), .val (.ref b101), .val (.ref b107), .val (.int (if (p3 &&& (1 : Int32)) = (0 : Int32) then (0 : Int32) else (1 : Int32))), .val (.int (if (p3 &&& (2 : Int32)) = (0 : Int32) then (0 : Int32) else (1 : Int32))), .unset, .unset, .unset, .unset]) rfl ?_
      show Steps p.tables e below (T107.setTop (mkF m 93 #[.val (.int p1), .val (.int p2), .val (.int p3), .val (.long q4), .second, .val (.long q5), .second, .val (.ref b6), .val (.ref b7), .val .null, .val (.ref b93), .val (.ref b97), .val (.ref b101), .val (.ref b107), .val (.int (if (p3 &&& (1 : Int32)) = (0 : Int32) then (0 : Int32) else (1 : Int32))), .val (.int (if (p3 &&& (2 : Int32)) = (0 : Int32) then (0 : Int32) else (1 : Int32))), .unset, .unset, .unset, .unset] [])) _
      refine XS.iloadN X107.here hx rfl (hb hby at_93) rfl ?_
      show Steps p.tables e below (T107.setTop (mkF m 94 #[.val (.int p1), .val (.int p2), .val (.int p3), .val (.long q4), .second, .val (.long q5), .second, .val (.ref b6), .val (.ref b7), .val .null, .val (.ref b93), .val (.ref b97), .val (.ref b101), .val (.ref b107), .val (.int (if (p3 &&& (1 : Int32)) = (0 : Int32) then (0 : Int32) else (1 : Int32))), .val (.int (if (p3 &&& (2 : Int32)) = (0 : Int32) then (0 : Int32) else (1 : Int32))), .unset, .unset, .unset, .unset] [(.int p3)])) _
      refine XS.iconst X107.here hx rfl (hb hby at_94) ?_
      show Steps p.tables e below (T107.setTop (mkF m 95 #[.val (.int p1), .val (.int p2), .val (.int p3), .val (.long q4), .second, .val (.long q5), .second, .val (.ref b6), .val (.ref b7), .val .null, .val (.ref b93), .val (.ref b97), .val (.ref b101), .val (.ref b107), .val (.int (if (p3 &&& (1 : Int32)) = (0 : Int32) then (0 : Int32) else (1 : Int32))), .val (.int (if (p3 &&& (2 : Int32)) = (0 : Int32) then (0 : Int32) else (1 : Int32))), .unset, .unset, .unset, .unset] [(.int (4 : Int32)), (.int p3)])) _
      refine XS.iand X107.here hx rfl (hb hby at_95) rfl ?_
      show Steps p.tables e below (T107.setTop (mkF m 96 #[.val (.int p1), .val (.int p2), .val (.int p3), .val (.long q4), .second, .val (.long q5), .second, .val (.ref b6), .val (.ref b7), .val .null, .val (.ref b93), .val (.ref b97), .val (.ref b101), .val (.ref b107), .val (.int (if (p3 &&& (1 : Int32)) = (0 : Int32) then (0 : Int32) else (1 : Int32))), .val (.int (if (p3 &&& (2 : Int32)) = (0 : Int32) then (0 : Int32) else (1 : Int32))), .unset, .unset, .unset, .unset] [(.int (p3 &&& (4 : Int32)))])) _
      by_cases hc120 : (p3 &&& (4 : Int32)) = (0 : Int32)
      · rw [if_pos hc120] at k
        refine XS.ifYes X107.here hx rfl (pc0 := 96) (pc' := 103) rfl (hb hby at_96) rfl ((if0 _ _).trans (teq hc120).1) (by decide) (by decide) ?_
        show Steps p.tables e below (T107.setTop (mkF m 103 #[.val (.int p1), .val (.int p2), .val (.int p3), .val (.long q4), .second, .val (.long q5), .second, .val (.ref b6), .val (.ref b7), .val .null, .val (.ref b93), .val (.ref b97), .val (.ref b101), .val (.ref b107), .val (.int (if (p3 &&& (1 : Int32)) = (0 : Int32) then (0 : Int32) else (1 : Int32))), .val (.int (if (p3 &&& (2 : Int32)) = (0 : Int32) then (0 : Int32) else (1 : Int32))), .unset, .unset, .unset, .unset] [])) _
        refine XS.iconst X107.here hx rfl (hb hby at_103) ?_
        exact k
      · rw [if_neg hc120] at k
        refine XS.ifNo X107.here hx rfl (hb hby at_96) rfl ((if0 _ _).trans (feq hc120).1) ?_
        show Steps p.tables e below (T107.setTop (mkF m 99 #[.val (.int p1), .val (.int p2), .val (.int p3), .val (.long q4), .second, .val (.long q5), .second, .val (.ref b6), .val (.ref b7), .val .null, .val (.ref b93), .val (.ref b97), .val (.ref b101), .val (.ref b107), .val (.int (if (p3 &&& (1 : Int32)) = (0 : Int32) then (0 : Int32) else (1 : Int32))), .val (.int (if (p3 &&& (2 : Int32)) = (0 : Int32) then (0 : Int32) else (1 : Int32))), .unset, .unset, .unset, .unset] [])) _
        refine XS.iconst X107.here hx rfl (hb hby at_99) ?_
        show Steps p.tables e below (T107.setTop (mkF m 100 #[.val (.int p1), .val (.int p2), .val (.int p3), .val (.long q4), .second, .val (.long q5), .second, .val (.ref b6), .val (.ref b7), .val .null, .val (.ref b93), .val (.ref b97), .val (.ref b101), .val (.ref b107), .val (.int (if (p3 &&& (1 : Int32)) = (0 : Int32) then (0 : Int32) else (1 : Int32))), .val (.int (if (p3 &&& (2 : Int32)) = (0 : Int32) then (0 : Int32) else (1 : Int32))), .unset, .unset, .unset, .unset] [(.int (1 : Int32))])) _
        refine XS.goto X107.here hx rfl (pc0 := 100) (pc' := 104) rfl (hb hby at_100) (by decide) (by decide) ?_
        exact k
    have pr122 : ∀ t, Steps p.tables e below (T107.setTop (mkF m 114 #[.val (.int p1), .val (.int p2), .val (.int p3), .val (.long q4), .second, .val (.long q5), .second, .val (.ref b6), .val (.ref b7), .val .null, .val (.ref b93), .val (.ref b97), .val (.ref b101), .val (.ref b107), .val (.int (if (p3 &&& (1 : Int32)) = (0 : Int32) then (0 : Int32) else (1 : Int32))), .val (.int (if (p3 &&& (2 : Int32)) = (0 : Int32) then (0 : Int32) else (1 : Int32))), .val (.int (if (p3 &&& (4 : Int32)) = (0 : Int32) then (0 : Int32) else (1 : Int32))), .unset, .unset, .unset] [(.int ((((p3.toUInt32 >>> ((3 : Int32) &&& 31).toUInt32).toInt32) &&& (7 : Int32)) % (5 : Int32)))])) t → Steps p.tables e below (s₁.setTop (entryFrame m #[(.int p1), (.int p2), (.int p3), (.long q4), (.long q5)] maxLocals)) t := by
      intro t k
      refine pr119 t ?_
      show Steps p.tables e below (T107.setTop (mkF m 104 #[.val (.int p1), .val (.int p2), .val (.int p3), .val (.long q4), .second, .val (.long q5), .second, .val (.ref b6), .val (.ref b7), .val .null, .val (.ref b93), .val (.ref b97), .val (.ref b101), .val (.ref b107), .val (.int (if (p3 &&& (1 : Int32)) = (0 : Int32) then (0 : Int32) else (1 : Int32))), .val (.int (if (p3 &&& (2 : Int32)) = (0 : Int32) then (0 : Int32) else (1 : Int32))), .unset, .unset, .unset, .unset] [(.int (if (p3 &&& (4 : Int32)) = (0 : Int32) then (0 : Int32) else (1 : Int32)))])) _
      refine XS.istore X107.here hx rfl (hb hby at_104) rfl (l' := #[.val (.int p1), .val (.int p2), .val (.int p3), .val (.long q4), .second, .val (.long q5), .second, .val (.ref b6), .val (.ref b7), .val .null, .val (.ref b93), .val (.ref b97), .val (.ref b101), .val (.ref b107), .val (.int (if (p3 &&& (1 : Int32)) = (0 : Int32) then (0 : Int32) else (1 : Int32))), .val (.int (if (p3 &&& (2 : Int32)) = (0 : Int32) then (0 : Int32) else (1 : Int32))), .val (.int (if (p3 &&& (4 : Int32)) = (0 : Int32) then (0 : Int32) else (1 : Int32))), .unset, .unset, .unset]) rfl ?_
      show Steps p.tables e below (T107.setTop (mkF m 106 #[.val (.int p1), .val (.int p2), .val (.int p3), .val (.long q4), .second, .val (.long q5), .second, .val (.ref b6), .val (.ref b7), .val .null, .val (.ref b93), .val (.ref b97), .val (.ref b101), .val (.ref b107), .val (.int (if (p3 &&& (1 : Int32)) = (0 : Int32) then (0 : Int32) else (1 : Int32))), .val (.int (if (p3 &&& (2 : Int32)) = (0 : Int32) then (0 : Int32) else (1 : Int32))), .val (.int (if (p3 &&& (4 : Int32)) = (0 : Int32) then (0 : Int32) else (1 : Int32))), .unset, .unset, .unset] [])) _
      refine XS.iloadN X107.here hx rfl (hb hby at_106) rfl ?_
      show Steps p.tables e below (T107.setTop (mkF m 107 #[.val (.int p1), .val (.int p2), .val (.int p3), .val (.long q4), .second, .val (.long q5), .second, .val (.ref b6), .val (.ref b7), .val .null, .val (.ref b93), .val (.ref b97), .val (.ref b101), .val (.ref b107), .val (.int (if (p3 &&& (1 : Int32)) = (0 : Int32) then (0 : Int32) else (1 : Int32))), .val (.int (if (p3 &&& (2 : Int32)) = (0 : Int32) then (0 : Int32) else (1 : Int32))), .val (.int (if (p3 &&& (4 : Int32)) = (0 : Int32) then (0 : Int32) else (1 : Int32))), .unset, .unset, .unset] [(.int p3)])) _
      refine XS.iconst X107.here hx rfl (hb hby at_107) ?_
      show Steps p.tables e below (T107.setTop (mkF m 108 #[.val (.int p1), .val (.int p2), .val (.int p3), .val (.long q4), .second, .val (.long q5), .second, .val (.ref b6), .val (.ref b7), .val .null, .val (.ref b93), .val (.ref b97), .val (.ref b101), .val (.ref b107), .val (.int (if (p3 &&& (1 : Int32)) = (0 : Int32) then (0 : Int32) else (1 : Int32))), .val (.int (if (p3 &&& (2 : Int32)) = (0 : Int32) then (0 : Int32) else (1 : Int32))), .val (.int (if (p3 &&& (4 : Int32)) = (0 : Int32) then (0 : Int32) else (1 : Int32))), .unset, .unset, .unset] [(.int (3 : Int32)), (.int p3)])) _
      refine XS.iushr X107.here hx rfl (hb hby at_108) rfl ?_
      show Steps p.tables e below (T107.setTop (mkF m 109 #[.val (.int p1), .val (.int p2), .val (.int p3), .val (.long q4), .second, .val (.long q5), .second, .val (.ref b6), .val (.ref b7), .val .null, .val (.ref b93), .val (.ref b97), .val (.ref b101), .val (.ref b107), .val (.int (if (p3 &&& (1 : Int32)) = (0 : Int32) then (0 : Int32) else (1 : Int32))), .val (.int (if (p3 &&& (2 : Int32)) = (0 : Int32) then (0 : Int32) else (1 : Int32))), .val (.int (if (p3 &&& (4 : Int32)) = (0 : Int32) then (0 : Int32) else (1 : Int32))), .unset, .unset, .unset] [(.int ((p3.toUInt32 >>> ((3 : Int32) &&& 31).toUInt32).toInt32))])) _
      refine XS.bipush X107.here hx rfl (hb hby at_109) ?_
      show Steps p.tables e below (T107.setTop (mkF m 111 #[.val (.int p1), .val (.int p2), .val (.int p3), .val (.long q4), .second, .val (.long q5), .second, .val (.ref b6), .val (.ref b7), .val .null, .val (.ref b93), .val (.ref b97), .val (.ref b101), .val (.ref b107), .val (.int (if (p3 &&& (1 : Int32)) = (0 : Int32) then (0 : Int32) else (1 : Int32))), .val (.int (if (p3 &&& (2 : Int32)) = (0 : Int32) then (0 : Int32) else (1 : Int32))), .val (.int (if (p3 &&& (4 : Int32)) = (0 : Int32) then (0 : Int32) else (1 : Int32))), .unset, .unset, .unset] [(.int (7 : Int32)), (.int ((p3.toUInt32 >>> ((3 : Int32) &&& 31).toUInt32).toInt32))])) _
      refine XS.iand X107.here hx rfl (hb hby at_111) rfl ?_
      show Steps p.tables e below (T107.setTop (mkF m 112 #[.val (.int p1), .val (.int p2), .val (.int p3), .val (.long q4), .second, .val (.long q5), .second, .val (.ref b6), .val (.ref b7), .val .null, .val (.ref b93), .val (.ref b97), .val (.ref b101), .val (.ref b107), .val (.int (if (p3 &&& (1 : Int32)) = (0 : Int32) then (0 : Int32) else (1 : Int32))), .val (.int (if (p3 &&& (2 : Int32)) = (0 : Int32) then (0 : Int32) else (1 : Int32))), .val (.int (if (p3 &&& (4 : Int32)) = (0 : Int32) then (0 : Int32) else (1 : Int32))), .unset, .unset, .unset] [(.int (((p3.toUInt32 >>> ((3 : Int32) &&& 31).toUInt32).toInt32) &&& (7 : Int32)))])) _
      refine XS.iconst X107.here hx rfl (hb hby at_112) ?_
      show Steps p.tables e below (T107.setTop (mkF m 113 #[.val (.int p1), .val (.int p2), .val (.int p3), .val (.long q4), .second, .val (.long q5), .second, .val (.ref b6), .val (.ref b7), .val .null, .val (.ref b93), .val (.ref b97), .val (.ref b101), .val (.ref b107), .val (.int (if (p3 &&& (1 : Int32)) = (0 : Int32) then (0 : Int32) else (1 : Int32))), .val (.int (if (p3 &&& (2 : Int32)) = (0 : Int32) then (0 : Int32) else (1 : Int32))), .val (.int (if (p3 &&& (4 : Int32)) = (0 : Int32) then (0 : Int32) else (1 : Int32))), .unset, .unset, .unset] [(.int (5 : Int32)), (.int (((p3.toUInt32 >>> ((3 : Int32) &&& 31).toUInt32).toInt32) &&& (7 : Int32)))])) _
      refine iremM X107 hx rfl (hb hby at_113) rfl (by decide) ?_
      exact k
    have f124 := (own_staKeep (own_staKeep (own_staKeep (own_staKeep (own_staKeep (own_staKeep S_INTERNAL K6 all0) K7 all0) K93 all0) K97 all0) K101 all0) K107 all0)
    have f125 := (own_staKeep (own_staKeep (own_staKeep (own_staKeep (own_staKeep (own_staKeep S_CLIENT K6 all0) K7 all0) K93 all0) K97 all0) K101 all0) K107 all0)
    have f126 := (own_staKeep (own_staKeep (own_staKeep (own_staKeep (own_staKeep (own_staKeep S_SERVER K6 all0) K7 all0) K93 all0) K97 all0) K101 all0) K107 all0)
    have f127 := (own_staKeep (own_staKeep (own_staKeep (own_staKeep (own_staKeep (own_staKeep S_PRODUCER K6 all0) K7 all0) K93 all0) K97 all0) K101 all0) K107 all0)
    have f128 := (own_staKeep (own_staKeep (own_staKeep (own_staKeep (own_staKeep (own_staKeep S_CONSUMER K6 all0) K7 all0) K93 all0) K97 all0) K101 all0) K107 all0)
    obtain ⟨_, _, ⟨T123, L123, k123, n123⟩, -, X123, ⟨Lc123, hQ123, l123, y123, z123⟩, st123⟩ := Jvm.LawKit.callS X107 hx (y := (⟨"com/example/longpole/longpole/SpanWithServicePinLaw", "kind", "(I)Lcom/example/longpole/longpole/Span$Kind;"⟩ : MethodName)) hown (mvT hZ (hw _ (List.mem_of_getElem? (i := 30) rfl))) (mvT hZ (hw _ (List.mem_of_getElem? (i := 31) rfl))) (mvT hZ (hw _ (List.mem_of_getElem? (i := 2) rfl))) (mvT hZ (hw _ (List.mem_of_getElem? (i := 32) rfl))) (by decide) (backOf (W := 0) (rm7 l Z a0 hw [] ((((p3.toUInt32 >>> ((3 : Int32) &&& 31).toUInt32).toInt32) &&& (7 : Int32)) % (5 : Int32)) s_INTERNAL s_CLIENT s_SERVER s_PRODUCER s_CONSUMER T107.heap n0 Z107 f124 f125 f126 f127 f128) hZ (hw _ (List.mem_of_getElem? (i := 32) rfl)) (hw _ (List.mem_of_getElem? (i := 2) rfl)) (by decide) (by decide)) (g := (mkF m 114 #[.val (.int p1), .val (.int p2), .val (.int p3), .val (.long q4), .second, .val (.long q5), .second, .val (.ref b6), .val (.ref b7), .val .null, .val (.ref b93), .val (.ref b97), .val (.ref b101), .val (.ref b107), .val (.int (if (p3 &&& (1 : Int32)) = (0 : Int32) then (0 : Int32) else (1 : Int32))), .val (.int (if (p3 &&& (2 : Int32)) = (0 : Int32) then (0 : Int32) else (1 : Int32))), .val (.int (if (p3 &&& (4 : Int32)) = (0 : Int32) then (0 : Int32) else (1 : Int32))), .unset, .unset, .unset] [(.int ((((p3.toUInt32 >>> ((3 : Int32) &&& 31).toUInt32).toInt32) &&& (7 : Int32)) % (5 : Int32)))])) rfl (by rw [hml]; rfl) (argsL := [(.int ((((p3.toUInt32 >>> ((3 : Int32) &&& 31).toUInt32).toInt32) &&& (7 : Int32)) % (5 : Int32)))]) (rest := []) (lenOf pd_0_1 rfl) rfl (by show 2 * 0 + _ ≤ _; exact Nat.le_of_eq rfl) (hb hby at_114) (fun _ _ => ⟨rfl, rfl, (by decide : 12 + 0 ≤ _), (by decide : 30 + 0 ≤ _)⟩)
    dsimp only [Pt.U, Pt.locs, Pt.cells, Pt.slots] at X123 l123 y123 z123 st123 hQ123
    replace y123 : k123 = 12 := y123
    replace z123 : n123 = 30 := z123
    subst y123 z123
    obtain ⟨rfl, N123q, e123⟩ := hQ123
    have N123 : Fr n0 L123 := by rw [l123]; exact Fr.app N107 N123q
    have f130 := (Exa.keep f109 K107)
    have f131 := (Exa.keep f110 K107)
    have f132 := (Exa.keep f111 K107)
    have f133 := (Exa.keep f112 K107)
    have f134 := (Exa.keep A101 K107)
    obtain ⟨T129, h129, X129, e129, E129, A129, D129, -, st129⟩ := newO X123 hx hZ hown (hw _ (List.mem_of_getElem? (i := 36) rfl)) (hw _ (List.mem_of_getElem? (i := 37) rfl)) (hw _ (List.mem_of_getElem? (i := 38) rfl)) e123 (g := (mkF m 119 #[.val (.int p1), .val (.int p2), .val (.int p3), .val (.long q4), .second, .val (.long q5), .second, .val (.ref b6), .val (.ref b7), .val .null, .val (.ref b93), .val (.ref b97), .val (.ref b101), .val (.ref b107), .val (.int (if (p3 &&& (1 : Int32)) = (0 : Int32) then (0 : Int32) else (1 : Int32))), .val (.int (if (p3 &&& (2 : Int32)) = (0 : Int32) then (0 : Int32) else (1 : Int32))), .val (.int (if (p3 &&& (4 : Int32)) = (0 : Int32) then (0 : Int32) else (1 : Int32))), .val (.ref (own_f7 ((((p3.toUInt32 >>> ((3 : Int32) &&& 31).toUInt32).toInt32) &&& (7 : Int32)) % (5 : Int32)) s_INTERNAL s_CLIENT s_SERVER s_PRODUCER s_CONSUMER)), .unset, .unset] [])) rfl (hb hby at_119) (by decide) (by decide)
    obtain ⟨b129, g129⟩ : ∃ z, z = T107.heap.size := ⟨_, rfl⟩
    rw [← g129] at A129 D129 st129
    have g_b129 : n0 ≤ b129 := Nat.le_trans Z107 (Nat.le_of_eq g129.symm)
    have sz_b129 : h0.size ≤ b129 := Nat.le_trans KK107.1 (Nat.le_of_eq g129.symm)
    have Z129 : n0 ≤ h129.size := Nat.le_trans Z107 E129.1
    have KK129 := (Keep.ext KK107 E129)
    have X129 : Stand p l e room_1 s m #[(.int p1), (.int p2), (.int p3), (.long q4), (.long q5)] below meth c T129 _ 13 42 := X129
    have F129_traceId : Fld Z h129 b129 "com/example/longpole/longpole/Span" "traceId" "Ljava/lang/String;" .null := D129 (Or.inr (hw _ (List.mem_of_getElem? (i := 49) rfl))) (ty := (.object "java/lang/String")) (by decide)
    have F129_id : Fld Z h129 b129 "com/example/longpole/longpole/Span" "id" "Ljava/lang/String;" .null := D129 (Or.inr (hw _ (List.mem_of_getElem? (i := 51) rfl))) (ty := (.object "java/lang/String")) (by decide)
    have F129_parentId : Fld Z h129 b129 "com/example/longpole/longpole/Span" "parentId" "Ljava/lang/String;" .null := D129 (Or.inr (hw _ (List.mem_of_getElem? (i := 53) rfl))) (ty := (.object "java/lang/String")) (by decide)
    have F129_awaited : Fld Z h129 b129 "com/example/longpole/longpole/Span" "awaited" "Z" (.int (0 : Int32)) := D129 (Or.inr (hw _ (List.mem_of_getElem? (i := 55) rfl))) (ty := .boolean) (by decide)
    have F129_kind : Fld Z h129 b129 "com/example/longpole/longpole/Span" "kind" "Lcom/example/longpole/longpole/Span$Kind;" .null := D129 (Or.inr (hw _ (List.mem_of_getElem? (i := 57) rfl))) (ty := (.object "com/example/longpole/longpole/Span$Kind")) (by decide)
    have F129_shared : Fld Z h129 b129 "com/example/longpole/longpole/Span" "shared" "Z" (.int (0 : Int32)) := D129 (Or.inr (hw _ (List.mem_of_getElem? (i := 59) rfl))) (ty := .boolean) (by decide)
    have F129_service : Fld Z h129 b129 "com/example/longpole/longpole/Span" "service" "Ljava/lang/String;" .null := D129 (Or.inr (hw _ (List.mem_of_getElem? (i := 61) rfl))) (ty := (.object "java/lang/String")) (by decide)
    have F129_name : Fld Z h129 b129 "com/example/longpole/longpole/Span" "name" "Ljava/lang/String;" .null := D129 (Or.inr (hw _ (List.mem_of_getElem? (i := 63) rfl))) (ty := (.object "java/lang/String")) (by decide)
    have F129_remoteService : Fld Z h129 b129 "com/example/longpole/longpole/Span" "remoteService" "Ljava/lang/String;" .null := D129 (Or.inr (hw _ (List.mem_of_getElem? (i := 65) rfl))) (ty := (.object "java/lang/String")) (by decide)
    have F129_hasTimestamp : Fld Z h129 b129 "com/example/longpole/longpole/Span" "hasTimestamp" "Z" (.int (0 : Int32)) := D129 (Or.inr (hw _ (List.mem_of_getElem? (i := 67) rfl))) (ty := .boolean) (by decide)
    have F129_startMicros : Fld Z h129 b129 "com/example/longpole/longpole/Span" "startMicros" "J" (.long (0 : Int64)) := D129 (Or.inr (hw _ (List.mem_of_getElem? (i := 69) rfl))) (ty := .long) (by decide)
    have F129_durationMicros : Fld Z h129 b129 "com/example/longpole/longpole/Span" "durationMicros" "J" (.long (0 : Int64)) := D129 (Or.inr (hw _ (List.mem_of_getElem? (i := 71) rfl))) (ty := .long) (by decide)
    have pr135 : ∀ t, Steps p.tables e below (T129.setTop (mkF m 131 #[.val (.int p1), .val (.int p2), .val (.int p3), .val (.long q4), .second, .val (.long q5), .second, .val (.ref b6), .val (.ref b7), .val .null, .val (.ref b93), .val (.ref b97), .val (.ref b101), .val (.ref b107), .val (.int (if (p3 &&& (1 : Int32)) = (0 : Int32) then (0 : Int32) else (1 : Int32))), .val (.int (if (p3 &&& (2 : Int32)) = (0 : Int32) then (0 : Int32) else (1 : Int32))), .val (.int (if (p3 &&& (4 : Int32)) = (0 : Int32) then (0 : Int32) else (1 : Int32))), .val (.ref (own_f7 ((((p3.toUInt32 >>> ((3 : Int32) &&& 31).toUInt32).toInt32) &&& (7 : Int32)) % (5 : Int32)) s_INTERNAL s_CLIENT s_SERVER s_PRODUCER s_CONSUMER)), .unset, .unset] [(.int (if (p3 &&& (1 : Int32)) = (0 : Int32) then (0 : Int32) else (1 : Int32))), .null, (.ref b7), (.ref b6), (.ref b129), (.ref b129)])) t → Steps p.tables e below (s₁.setTop (entryFrame m #[(.int p1), (.int p2), (.int p3), (.long q4), (.long q5)] maxLocals)) t := by
      intro t k
      refine pr122 t ?_
      show Steps p.tables e below (T107.setTop (mkF m 114 #[.val (.int p1), .val (.int p2), .val (.int p3), .val (.long q4), .second, .val (.long q5), .second, .val (.ref b6), .val (.ref b7), .val .null, .val (.ref b93), .val (.ref b97), .val (.ref b101), .val (.ref b107), .val (.int (if (p3 &&& (1 : Int32)) = (0 : Int32) then (0 : Int32) else (1 : Int32))), .val (.int (if (p3 &&& (2 : Int32)) = (0 : Int32) then (0 : Int32) else (1 : Int32))), .val (.int (if (p3 &&& (4 : Int32)) = (0 : Int32) then (0 : Int32) else (1 : Int32))), .unset, .unset, .unset] [(.int ((((p3.toUInt32 >>> ((3 : Int32) &&& 31).toUInt32).toInt32) &&& (7 : Int32)) % (5 : Int32)))])) _
      refine st123 _ ?_
      show Steps p.tables e below (T123.setTop (mkF m 117 #[.val (.int p1), .val (.int p2), .val (.int p3), .val (.long q4), .second, .val (.long q5), .second, .val (.ref b6), .val (.ref b7), .val .null, .val (.ref b93), .val (.ref b97), .val (.ref b101), .val (.ref b107), .val (.int (if (p3 &&& (1 : Int32)) = (0 : Int32) then (0 : Int32) else (1 : Int32))), .val (.int (if (p3 &&& (2 : Int32)) = (0 : Int32) then (0 : Int32) else (1 : Int32))), .val (.int (if (p3 &&& (4 : Int32)) = (0 : Int32) then (0 : Int32) else (1 : Int32))), .unset, .unset, .unset] [(.ref (own_f7 ((((p3.toUInt32 >>> ((3 : Int32) &&& 31).toUInt32).toInt32) &&& (7 : Int32)) % (5 : Int32)) s_INTERNAL s_CLIENT s_SERVER s_PRODUCER s_CONSUMER))])) _
      refine XS.astore X123.here hx rfl (hb hby at_117) rfl rfl (l' := #[.val (.int p1), .val (.int p2), .val (.int p3), .val (.long q4), .second, .val (.long q5), .second, .val (.ref b6), .val (.ref b7), .val .null, .val (.ref b93), .val (.ref b97), .val (.ref b101), .val (.ref b107), .val (.int (if (p3 &&& (1 : Int32)) = (0 : Int32) then (0 : Int32) else (1 : Int32))), .val (.int (if (p3 &&& (2 : Int32)) = (0 : Int32) then (0 : Int32) else (1 : Int32))), .val (.int (if (p3 &&& (4 : Int32)) = (0 : Int32) then (0 : Int32) else (1 : Int32))), .val (.ref (own_f7 ((((p3.toUInt32 >>> ((3 : Int32) &&& 31).toUInt32).toInt32) &&& (7 : Int32)) % (5 : Int32)) s_INTERNAL s_CLIENT s_SERVER s_PRODUCER s_CONSUMER)), .unset, .unset]) rfl ?_
      show Steps p.tables e below (T123.setTop (mkF m 119 #[.val (.int p1), .val (.int p2), .val (.int p3), .val (.long q4), .second, .val (.long q5), .second, .val (.ref b6), .val (.ref b7), .val .null, .val (.ref b93), .val (.ref b97), .val (.ref b101), .val (.ref b107), .val (.int (if (p3 &&& (1 : Int32)) = (0 : Int32) then (0 : Int32) else (1 : Int32))), .val (.int (if (p3 &&& (2 : Int32)) = (0 : Int32) then (0 : Int32) else (1 : Int32))), .val (.int (if (p3 &&& (4 : Int32)) = (0 : Int32) then (0 : Int32) else (1 : Int32))), .val (.ref (own_f7 ((((p3.toUInt32 >>> ((3 : Int32) &&& 31).toUInt32).toInt32) &&& (7 : Int32)) % (5 : Int32)) s_INTERNAL s_CLIENT s_SERVER s_PRODUCER s_CONSUMER)), .unset, .unset] [])) _
      refine st129 _ ?_
      show Steps p.tables e below (T129.setTop (mkF m 122 #[.val (.int p1), .val (.int p2), .val (.int p3), .val (.long q4), .second, .val (.long q5), .second, .val (.ref b6), .val (.ref b7), .val .null, .val (.ref b93), .val (.ref b97), .val (.ref b101), .val (.ref b107), .val (.int (if (p3 &&& (1 : Int32)) = (0 : Int32) then (0 : Int32) else (1 : Int32))), .val (.int (if (p3 &&& (2 : Int32)) = (0 : Int32) then (0 : Int32) else (1 : Int32))), .val (.int (if (p3 &&& (4 : Int32)) = (0 : Int32) then (0 : Int32) else (1 : Int32))), .val (.ref (own_f7 ((((p3.toUInt32 >>> ((3 : Int32) &&& 31).toUInt32).toInt32) &&& (7 : Int32)) % (5 : Int32)) s_INTERNAL s_CLIENT s_SERVER s_PRODUCER s_CONSUMER)), .unset, .unset] [(.ref b129)])) _
      refine XS.dup X129.here hx rfl (hb hby at_122) rfl rfl ?_
      show Steps p.tables e below (T129.setTop (mkF m 123 #[.val (.int p1), .val (.int p2), .val (.int p3), .val (.long q4), .second, .val (.long q5), .second, .val (.ref b6), .val (.ref b7), .val .null, .val (.ref b93), .val (.ref b97), .val (.ref b101), .val (.ref b107), .val (.int (if (p3 &&& (1 : Int32)) = (0 : Int32) then (0 : Int32) else (1 : Int32))), .val (.int (if (p3 &&& (2 : Int32)) = (0 : Int32) then (0 : Int32) else (1 : Int32))), .val (.int (if (p3 &&& (4 : Int32)) = (0 : Int32) then (0 : Int32) else (1 : Int32))), .val (.ref (own_f7 ((((p3.toUInt32 >>> ((3 : Int32) &&& 31).toUInt32).toInt32) &&& (7 : Int32)) % (5 : Int32)) s_INTERNAL s_CLIENT s_SERVER s_PRODUCER s_CONSUMER)), .unset, .unset] [(.ref b129), (.ref b129)])) _
      refine XS.aload X129.here hx rfl (hb hby at_123) rfl rfl ?_
      show Steps p.tables e below (T129.setTop (mkF m 125 #[.val (.int p1), .val (.int p2), .val (.int p3), .val (.long q4), .second, .val (.long q5), .second, .val (.ref b6), .val (.ref b7), .val .null, .val (.ref b93), .val (.ref b97), .val (.ref b101), .val (.ref b107), .val (.int (if (p3 &&& (1 : Int32)) = (0 : Int32) then (0 : Int32) else (1 : Int32))), .val (.int (if (p3 &&& (2 : Int32)) = (0 : Int32) then (0 : Int32) else (1 : Int32))), .val (.int (if (p3 &&& (4 : Int32)) = (0 : Int32) then (0 : Int32) else (1 : Int32))), .val (.ref (own_f7 ((((p3.toUInt32 >>> ((3 : Int32) &&& 31).toUInt32).toInt32) &&& (7 : Int32)) % (5 : Int32)) s_INTERNAL s_CLIENT s_SERVER s_PRODUCER s_CONSUMER)), .unset, .unset] [(.ref b6), (.ref b129), (.ref b129)])) _
      refine XS.aload X129.here hx rfl (hb hby at_125) rfl rfl ?_
      show Steps p.tables e below (T129.setTop (mkF m 127 #[.val (.int p1), .val (.int p2), .val (.int p3), .val (.long q4), .second, .val (.long q5), .second, .val (.ref b6), .val (.ref b7), .val .null, .val (.ref b93), .val (.ref b97), .val (.ref b101), .val (.ref b107), .val (.int (if (p3 &&& (1 : Int32)) = (0 : Int32) then (0 : Int32) else (1 : Int32))), .val (.int (if (p3 &&& (2 : Int32)) = (0 : Int32) then (0 : Int32) else (1 : Int32))), .val (.int (if (p3 &&& (4 : Int32)) = (0 : Int32) then (0 : Int32) else (1 : Int32))), .val (.ref (own_f7 ((((p3.toUInt32 >>> ((3 : Int32) &&& 31).toUInt32).toInt32) &&& (7 : Int32)) % (5 : Int32)) s_INTERNAL s_CLIENT s_SERVER s_PRODUCER s_CONSUMER)), .unset, .unset] [(.ref b7), (.ref b6), (.ref b129), (.ref b129)])) _
      refine XS.aload X129.here hx rfl (hb hby at_127) rfl rfl ?_
      show Steps p.tables e below (T129.setTop (mkF m 129 #[.val (.int p1), .val (.int p2), .val (.int p3), .val (.long q4), .second, .val (.long q5), .second, .val (.ref b6), .val (.ref b7), .val .null, .val (.ref b93), .val (.ref b97), .val (.ref b101), .val (.ref b107), .val (.int (if (p3 &&& (1 : Int32)) = (0 : Int32) then (0 : Int32) else (1 : Int32))), .val (.int (if (p3 &&& (2 : Int32)) = (0 : Int32) then (0 : Int32) else (1 : Int32))), .val (.int (if (p3 &&& (4 : Int32)) = (0 : Int32) then (0 : Int32) else (1 : Int32))), .val (.ref (own_f7 ((((p3.toUInt32 >>> ((3 : Int32) &&& 31).toUInt32).toInt32) &&& (7 : Int32)) % (5 : Int32)) s_INTERNAL s_CLIENT s_SERVER s_PRODUCER s_CONSUMER)), .unset, .unset] [.null, (.ref b7), (.ref b6), (.ref b129), (.ref b129)])) _
      refine XS.iload X129.here hx rfl (hb hby at_129) rfl ?_
      exact k
    have pr136 : ∀ t, Steps p.tables e below (T129.setTop (mkF m 146 #[.val (.int p1), .val (.int p2), .val (.int p3), .val (.long q4), .second, .val (.long q5), .second, .val (.ref b6), .val (.ref b7), .val .null, .val (.ref b93), .val (.ref b97), .val (.ref b101), .val (.ref b107), .val (.int (if (p3 &&& (1 : Int32)) = (0 : Int32) then (0 : Int32) else (1 : Int32))), .val (.int (if (p3 &&& (2 : Int32)) = (0 : Int32) then (0 : Int32) else (1 : Int32))), .val (.int (if (p3 &&& (4 : Int32)) = (0 : Int32) then (0 : Int32) else (1 : Int32))), .val (.ref (own_f7 ((((p3.toUInt32 >>> ((3 : Int32) &&& 31).toUInt32).toInt32) &&& (7 : Int32)) % (5 : Int32)) s_INTERNAL s_CLIENT s_SERVER s_PRODUCER s_CONSUMER)), .unset, .unset] [(.long q5), (.long q4), (.int (if (p3 &&& (4 : Int32)) = (0 : Int32) then (0 : Int32) else (1 : Int32))), (.ref b101), (.ref b97), (.ref b93), (.int (if (p3 &&& (2 : Int32)) = (0 : Int32) then (0 : Int32) else (1 : Int32))), (.ref (own_f7 ((((p3.toUInt32 >>> ((3 : Int32) &&& 31).toUInt32).toInt32) &&& (7 : Int32)) % (5 : Int32)) s_INTERNAL s_CLIENT s_SERVER s_PRODUCER s_CONSUMER)), (.int (if (p3 &&& (1 : Int32)) = (0 : Int32) then (0 : Int32) else (1 : Int32))), .null, (.ref b7), (.ref b6), (.ref b129), (.ref b129)])) t → Steps p.tables e below (s₁.setTop (entryFrame m #[(.int p1), (.int p2), (.int p3), (.long q4), (.long q5)] maxLocals)) t := by
      intro t k
      refine pr135 t ?_
      show Steps p.tables e below (T129.setTop (mkF m 131 #[.val (.int p1), .val (.int p2), .val (.int p3), .val (.long q4), .second, .val (.long q5), .second, .val (.ref b6), .val (.ref b7), .val .null, .val (.ref b93), .val (.ref b97), .val (.ref b101), .val (.ref b107), .val (.int (if (p3 &&& (1 : Int32)) = (0 : Int32) then (0 : Int32) else (1 : Int32))), .val (.int (if (p3 &&& (2 : Int32)) = (0 : Int32) then (0 : Int32) else (1 : Int32))), .val (.int (if (p3 &&& (4 : Int32)) = (0 : Int32) then (0 : Int32) else (1 : Int32))), .val (.ref (own_f7 ((((p3.toUInt32 >>> ((3 : Int32) &&& 31).toUInt32).toInt32) &&& (7 : Int32)) % (5 : Int32)) s_INTERNAL s_CLIENT s_SERVER s_PRODUCER s_CONSUMER)), .unset, .unset] [(.int (if (p3 &&& (1 : Int32)) = (0 : Int32) then (0 : Int32) else (1 : Int32))), .null, (.ref b7), (.ref b6), (.ref b129), (.ref b129)])) _
      refine XS.aload X129.here hx rfl (hb hby at_131) rfl rfl ?_
      show Steps p.tables e below (T129.setTop (mkF m 133 #[.val (.int p1), .val (.int p2), .val (.int p3), .val (.long q4), .second, .val (.long q5), .second, .val (.ref b6), .val (.ref b7), .val .null, .val (.ref b93), .val (.ref b97), .val (.ref b101), .val (.ref b107), .val (.int (if (p3 &&& (1 : Int32)) = (0 : Int32) then (0 : Int32) else (1 : Int32))), .val (.int (if (p3 &&& (2 : Int32)) = (0 : Int32) then (0 : Int32) else (1 : Int32))), .val (.int (if (p3 &&& (4 : Int32)) = (0 : Int32) then (0 : Int32) else (1 : Int32))), .val (.ref (own_f7 ((((p3.toUInt32 >>> ((3 : Int32) &&& 31).toUInt32).toInt32) &&& (7 : Int32)) % (5 : Int32)) s_INTERNAL s_CLIENT s_SERVER s_PRODUCER s_CONSUMER)), .unset, .unset] [(.ref (own_f7 ((((p3.toUInt32 >>> ((3 : Int32) &&& 31).toUInt32).toInt32) &&& (7 : Int32)) % (5 : Int32)) s_INTERNAL s_CLIENT s_SERVER s_PRODUCER s_CONSUMER)), (.int (if (p3 &&& (1 : Int32)) = (0 : Int32) then (0 : Int32) else (1 : Int32))), .null, (.ref b7), (.ref b6), (.ref b129), (.ref b129)])) _
      refine XS.iload X129.here hx rfl (hb hby at_133) rfl ?_
      show Steps p.tables e below (T129.setTop (mkF m 135 #[.val (.int p1), .val (.int p2), .val (.int p3), .val (.long q4), .second, .val (.long q5), .second, .val (.ref b6), .val (.ref b7), .val .null, .val (.ref b93), .val (.ref b97), .val (.ref b101), .val (.ref b107), .val (.int (if (p3 &&& (1 : Int32)) = (0 : Int32) then (0 : Int32) else (1 : Int32))), .val (.int (if (p3 &&& (2 : Int32)) = (0 : Int32) then (0 : Int32) else (1 : Int32))), .val (.int (if (p3 &&& (4 : Int32)) = (0 : Int32) then (0 : Int32) else (1 : Int32))), .val (.ref (own_f7 ((((p3.toUInt32 >>> ((3 : Int32) &&& 31).toUInt32).toInt32) &&& (7 : Int32)) % (5 : Int32)) s_INTERNAL s_CLIENT s_SERVER s_PRODUCER s_CONSUMER)), .unset, .unset] [(.int (if (p3 &&& (2 : Int32)) = (0 : Int32) then (0 : Int32) else (1 : Int32))), (.ref (own_f7 ((((p3.toUInt32 >>> ((3 : Int32) &&& 31).toUInt32).toInt32) &&& (7 : Int32)) % (5 : Int32)) s_INTERNAL s_CLIENT s_SERVER s_PRODUCER s_CONSUMER)), (.int (if (p3 &&& (1 : Int32)) = (0 : Int32) then (0 : Int32) else (1 : Int32))), .null, (.ref b7), (.ref b6), (.ref b129), (.ref b129)])) _
      refine XS.aload X129.here hx rfl (hb hby at_135) rfl rfl ?_
      show Steps p.tables e below (T129.setTop (mkF m 137 #[.val (.int p1), .val (.int p2), .val (.int p3), .val (.long q4), .second, .val (.long q5), .second, .val (.ref b6), .val (.ref b7), .val .null, .val (.ref b93), .val (.ref b97), .val (.ref b101), .val (.ref b107), .val (.int (if (p3 &&& (1 : Int32)) = (0 : Int32) then (0 : Int32) else (1 : Int32))), .val (.int (if (p3 &&& (2 : Int32)) = (0 : Int32) then (0 : Int32) else (1 : Int32))), .val (.int (if (p3 &&& (4 : Int32)) = (0 : Int32) then (0 : Int32) else (1 : Int32))), .val (.ref (own_f7 ((((p3.toUInt32 >>> ((3 : Int32) &&& 31).toUInt32).toInt32) &&& (7 : Int32)) % (5 : Int32)) s_INTERNAL s_CLIENT s_SERVER s_PRODUCER s_CONSUMER)), .unset, .unset] [(.ref b93), (.int (if (p3 &&& (2 : Int32)) = (0 : Int32) then (0 : Int32) else (1 : Int32))), (.ref (own_f7 ((((p3.toUInt32 >>> ((3 : Int32) &&& 31).toUInt32).toInt32) &&& (7 : Int32)) % (5 : Int32)) s_INTERNAL s_CLIENT s_SERVER s_PRODUCER s_CONSUMER)), (.int (if (p3 &&& (1 : Int32)) = (0 : Int32) then (0 : Int32) else (1 : Int32))), .null, (.ref b7), (.ref b6), (.ref b129), (.ref b129)])) _
      refine XS.aload X129.here hx rfl (hb hby at_137) rfl rfl ?_
      show Steps p.tables e below (T129.setTop (mkF m 139 #[.val (.int p1), .val (.int p2), .val (.int p3), .val (.long q4), .second, .val (.long q5), .second, .val (.ref b6), .val (.ref b7), .val .null, .val (.ref b93), .val (.ref b97), .val (.ref b101), .val (.ref b107), .val (.int (if (p3 &&& (1 : Int32)) = (0 : Int32) then (0 : Int32) else (1 : Int32))), .val (.int (if (p3 &&& (2 : Int32)) = (0 : Int32) then (0 : Int32) else (1 : Int32))), .val (.int (if (p3 &&& (4 : Int32)) = (0 : Int32) then (0 : Int32) else (1 : Int32))), .val (.ref (own_f7 ((((p3.toUInt32 >>> ((3 : Int32) &&& 31).toUInt32).toInt32) &&& (7 : Int32)) % (5 : Int32)) s_INTERNAL s_CLIENT s_SERVER s_PRODUCER s_CONSUMER)), .unset, .unset] [(.ref b97), (.ref b93), (.int (if (p3 &&& (2 : Int32)) = (0 : Int32) then (0 : Int32) else (1 : Int32))), (.ref (own_f7 ((((p3.toUInt32 >>> ((3 : Int32) &&& 31).toUInt32).toInt32) &&& (7 : Int32)) % (5 : Int32)) s_INTERNAL s_CLIENT s_SERVER s_PRODUCER s_CONSUMER)), (.int (if (p3 &&& (1 : Int32)) = (0 : Int32) then (0 : Int32) else (1 : Int32))), .null, (.ref b7), (.ref b6), (.ref b129), (.ref b129)])) _
      refine XS.aload X129.here hx rfl (hb hby at_139) rfl rfl ?_
      show Steps p.tables e below (T129.setTop (mkF m 141 #[.val (.int p1), .val (.int p2), .val (.int p3), .val (.long q4), .second, .val (.long q5), .second, .val (.ref b6), .val (.ref b7), .val .null, .val (.ref b93), .val (.ref b97), .val (.ref b101), .val (.ref b107), .val (.int (if (p3 &&& (1 : Int32)) = (0 : Int32) then (0 : Int32) else (1 : Int32))), .val (.int (if (p3 &&& (2 : Int32)) = (0 : Int32) then (0 : Int32) else (1 : Int32))), .val (.int (if (p3 &&& (4 : Int32)) = (0 : Int32) then (0 : Int32) else (1 : Int32))), .val (.ref (own_f7 ((((p3.toUInt32 >>> ((3 : Int32) &&& 31).toUInt32).toInt32) &&& (7 : Int32)) % (5 : Int32)) s_INTERNAL s_CLIENT s_SERVER s_PRODUCER s_CONSUMER)), .unset, .unset] [(.ref b101), (.ref b97), (.ref b93), (.int (if (p3 &&& (2 : Int32)) = (0 : Int32) then (0 : Int32) else (1 : Int32))), (.ref (own_f7 ((((p3.toUInt32 >>> ((3 : Int32) &&& 31).toUInt32).toInt32) &&& (7 : Int32)) % (5 : Int32)) s_INTERNAL s_CLIENT s_SERVER s_PRODUCER s_CONSUMER)), (.int (if (p3 &&& (1 : Int32)) = (0 : Int32) then (0 : Int32) else (1 : Int32))), .null, (.ref b7), (.ref b6), (.ref b129), (.ref b129)])) _
      refine XS.iload X129.here hx rfl (hb hby at_141) rfl ?_
      show Steps p.tables e below (T129.setTop (mkF m 143 #[.val (.int p1), .val (.int p2), .val (.int p3), .val (.long q4), .second, .val (.long q5), .second, .val (.ref b6), .val (.ref b7), .val .null, .val (.ref b93), .val (.ref b97), .val (.ref b101), .val (.ref b107), .val (.int (if (p3 &&& (1 : Int32)) = (0 : Int32) then (0 : Int32) else (1 : Int32))), .val (.int (if (p3 &&& (2 : Int32)) = (0 : Int32) then (0 : Int32) else (1 : Int32))), .val (.int (if (p3 &&& (4 : Int32)) = (0 : Int32) then (0 : Int32) else (1 : Int32))), .val (.ref (own_f7 ((((p3.toUInt32 >>> ((3 : Int32) &&& 31).toUInt32).toInt32) &&& (7 : Int32)) % (5 : Int32)) s_INTERNAL s_CLIENT s_SERVER s_PRODUCER s_CONSUMER)), .unset, .unset] [(.int (if (p3 &&& (4 : Int32)) = (0 : Int32) then (0 : Int32) else (1 : Int32))), (.ref b101), (.ref b97), (.ref b93), (.int (if (p3 &&& (2 : Int32)) = (0 : Int32) then (0 : Int32) else (1 : Int32))), (.ref (own_f7 ((((p3.toUInt32 >>> ((3 : Int32) &&& 31).toUInt32).toInt32) &&& (7 : Int32)) % (5 : Int32)) s_INTERNAL s_CLIENT s_SERVER s_PRODUCER s_CONSUMER)), (.int (if (p3 &&& (1 : Int32)) = (0 : Int32) then (0 : Int32) else (1 : Int32))), .null, (.ref b7), (.ref b6), (.ref b129), (.ref b129)])) _
      refine XS.lloadN X129.here hx rfl (hb hby at_143) rfl ?_
      show Steps p.tables e below (T129.setTop (mkF m 144 #[.val (.int p1), .val (.int p2), .val (.int p3), .val (.long q4), .second, .val (.long q5), .second, .val (.ref b6), .val (.ref b7), .val .null, .val (.ref b93), .val (.ref b97), .val (.ref b101), .val (.ref b107), .val (.int (if (p3 &&& (1 : Int32)) = (0 : Int32) then (0 : Int32) else (1 : Int32))), .val (.int (if (p3 &&& (2 : Int32)) = (0 : Int32) then (0 : Int32) else (1 : Int32))), .val (.int (if (p3 &&& (4 : Int32)) = (0 : Int32) then (0 : Int32) else (1 : Int32))), .val (.ref (own_f7 ((((p3.toUInt32 >>> ((3 : Int32) &&& 31).toUInt32).toInt32) &&& (7 : Int32)) % (5 : Int32)) s_INTERNAL s_CLIENT s_SERVER s_PRODUCER s_CONSUMER)), .unset, .unset] [(.long q4), (.int (if (p3 &&& (4 : Int32)) = (0 : Int32) then (0 : Int32) else (1 : Int32))), (.ref b101), (.ref b97), (.ref b93), (.int (if (p3 &&& (2 : Int32)) = (0 : Int32) then (0 : Int32) else (1 : Int32))), (.ref (own_f7 ((((p3.toUInt32 >>> ((3 : Int32) &&& 31).toUInt32).toInt32) &&& (7 : Int32)) % (5 : Int32)) s_INTERNAL s_CLIENT s_SERVER s_PRODUCER s_CONSUMER)), (.int (if (p3 &&& (1 : Int32)) = (0 : Int32) then (0 : Int32) else (1 : Int32))), .null, (.ref b7), (.ref b6), (.ref b129), (.ref b129)])) _
      refine XS.lload X129.here hx rfl (hb hby at_144) rfl ?_
      exact k
    obtain ⟨_, _, ⟨T137, L137, k137, n137⟩, -, X137, ⟨Lc137, hQ137, l137, y137, z137⟩, st137⟩ := X129.specialBack hx (y := (⟨"com/example/longpole/longpole/Span", "<init>", "(Ljava/lang/String;Ljava/lang/String;Ljava/lang/String;ZLcom/example/longpole/longpole/Span$Kind;ZLjava/lang/String;Ljava/lang/String;Ljava/lang/String;ZJJ)V"⟩ : MethodName)) rfl hown (mvT hZ (hw _ (List.mem_of_getElem? (i := 39) rfl))) (mvT hZ (hw _ (List.mem_of_getElem? (i := 40) rfl))) (mvT hZ (hw _ (List.mem_of_getElem? (i := 41) rfl))) (by decide) (backOf (W := 1) (rm8 l Z a0 hw [] b129 (Value.ref b6) (Value.ref b7) Value.null (if (p3 &&& (1 : Int32)) = (0 : Int32) then (0 : Int32) else (1 : Int32)) (Value.ref (own_f7 ((((p3.toUInt32 >>> ((3 : Int32) &&& 31).toUInt32).toInt32) &&& (7 : Int32)) % (5 : Int32)) s_INTERNAL s_CLIENT s_SERVER s_PRODUCER s_CONSUMER)) (if (p3 &&& (2 : Int32)) = (0 : Int32) then (0 : Int32) else (1 : Int32)) (Value.ref b93) (Value.ref b97) (Value.ref b101) (if (p3 &&& (4 : Int32)) = (0 : Int32) then (0 : Int32) else (1 : Int32)) q4 q5 .null .null .null (.int (0 : Int32)) .null (.int (0 : Int32)) .null .null .null (.int (0 : Int32)) (.long (0 : Int64)) (.long (0 : Int64)) h129 n0 Z129 rfl rfl rfl rfl rfl rfl rfl g_b129 A129 F129_traceId F129_id F129_parentId F129_awaited F129_kind F129_shared F129_service F129_name F129_remoteService F129_hasTimestamp F129_startMicros F129_durationMicros) hZ (hw _ (List.mem_of_getElem? (i := 41) rfl)) (hw _ (List.mem_of_getElem? (i := 38) rfl)) (by decide) (by decide)) (g := (mkF m 146 #[.val (.int p1), .val (.int p2), .val (.int p3), .val (.long q4), .second, .val (.long q5), .second, .val (.ref b6), .val (.ref b7), .val .null, .val (.ref b93), .val (.ref b97), .val (.ref b101), .val (.ref b107), .val (.int (if (p3 &&& (1 : Int32)) = (0 : Int32) then (0 : Int32) else (1 : Int32))), .val (.int (if (p3 &&& (2 : Int32)) = (0 : Int32) then (0 : Int32) else (1 : Int32))), .val (.int (if (p3 &&& (4 : Int32)) = (0 : Int32) then (0 : Int32) else (1 : Int32))), .val (.ref (own_f7 ((((p3.toUInt32 >>> ((3 : Int32) &&& 31).toUInt32).toInt32) &&& (7 : Int32)) % (5 : Int32)) s_INTERNAL s_CLIENT s_SERVER s_PRODUCER s_CONSUMER)), .unset, .unset] [(.long q5), (.long q4), (.int (if (p3 &&& (4 : Int32)) = (0 : Int32) then (0 : Int32) else (1 : Int32))), (.ref b101), (.ref b97), (.ref b93), (.int (if (p3 &&& (2 : Int32)) = (0 : Int32) then (0 : Int32) else (1 : Int32))), (.ref (own_f7 ((((p3.toUInt32 >>> ((3 : Int32) &&& 31).toUInt32).toInt32) &&& (7 : Int32)) % (5 : Int32)) s_INTERNAL s_CLIENT s_SERVER s_PRODUCER s_CONSUMER)), (.int (if (p3 &&& (1 : Int32)) = (0 : Int32) then (0 : Int32) else (1 : Int32))), .null, (.ref b7), (.ref b6), (.ref b129), (.ref b129)])) rfl (by rw [hml]; rfl) (Steps.refl _) (a := b129) (argsL := [(.ref b6), (.ref b7), .null, (.int (if (p3 &&& (1 : Int32)) = (0 : Int32) then (0 : Int32) else (1 : Int32))), (.ref (own_f7 ((((p3.toUInt32 >>> ((3 : Int32) &&& 31).toUInt32).toInt32) &&& (7 : Int32)) % (5 : Int32)) s_INTERNAL s_CLIENT s_SERVER s_PRODUCER s_CONSUMER)), (.int (if (p3 &&& (2 : Int32)) = (0 : Int32) then (0 : Int32) else (1 : Int32))), (.ref b93), (.ref b97), (.ref b101), (.int (if (p3 &&& (4 : Int32)) = (0 : Int32) then (0 : Int32) else (1 : Int32))), (.long q4), (.long q5)]) (rest := [(.ref b129)]) (lenOf pd_0_2 rfl) rfl (by show 2 * 0 + _ ≤ _; exact Nat.le_of_eq rfl) (hb hby at_146) (fun _ _ => ⟨rfl, e129, (by decide : 13 + 0 ≤ _), (by decide : 42 + 0 ≤ _)⟩)
    dsimp only [Pt.U, Pt.locs, Pt.cells, Pt.slots] at X137 l137 y137 z137 st137 hQ137
    replace y137 : k137 = 13 := y137
    replace z137 : n137 = 42 := z137
    subst y137 z137
    obtain ⟨rfl, N137q, K137, A137, G137_traceId, G137_id, G137_parentId, G137_awaited, G137_kind, G137_shared, G137_service, G137_name, G137_remoteService, G137_hasTimestamp, G137_startMicros, G137_durationMicros⟩ := hQ137
    have N137 : Fr n0 L137 := by rw [l137]; exact Fr.app N123 N137q
    have Z137 : n0 ≤ T137.heap.size := Nat.le_trans Z129 K137.1
    have KK137 := Keep.trans KK129 K137 (allS (Or.inr sz_b129) all0)
    obtain ⟨cq138, kq138, q138a, q138b, q138c⟩ := isOf hZ rfl A137
    obtain ⟨_, _, ⟨T138, L138, k138, n138⟩, -, X138, ⟨Lc138, hQ138, l138, y138, z138⟩, st138⟩ := X137.virtualBack hx (y := (⟨"com/example/longpole/longpole/Span", "withService", "(Ljava/lang/String;)Lcom/example/longpole/longpole/Span;"⟩ : MethodName)) (z := (⟨"com/example/longpole/longpole/Span", "withService", "(Ljava/lang/String;)Lcom/example/longpole/longpole/Span;"⟩ : MethodName)) hown (mvT hZ (hw _ (List.mem_of_getElem? (i := 72) rfl))) (mvT hZ (hw _ (List.mem_of_getElem? (i := 73) rfl))) (notFace_of_selects (args := #[]) (mvT hZ (hw _ (List.mem_of_getElem? (i := 75) rfl)))) (mvT hZ (hw _ (List.mem_of_getElem? (i := 75) rfl))) (mvT hZ (hw _ (List.mem_of_getElem? (i := 74) rfl))) (by decide) (backOf (W := 0) (rm10 l Z a0 hw [] b129 (Value.ref b107) (Value.ref b6) (Value.ref b7) Value.null (nar .boolean (if (p3 &&& (1 : Int32)) = (0 : Int32) then (0 : Int32) else (1 : Int32))) (Value.ref (own_f7 ((((p3.toUInt32 >>> ((3 : Int32) &&& 31).toUInt32).toInt32) &&& (7 : Int32)) % (5 : Int32)) s_INTERNAL s_CLIENT s_SERVER s_PRODUCER s_CONSUMER)) (nar .boolean (if (p3 &&& (2 : Int32)) = (0 : Int32) then (0 : Int32) else (1 : Int32))) (Value.ref b97) (Value.ref b101) (nar .boolean (if (p3 &&& (4 : Int32)) = (0 : Int32) then (0 : Int32) else (1 : Int32))) q4 q5 T137.heap n0 Z137 rfl G137_traceId rfl G137_id rfl G137_parentId rfl G137_awaited G137_kind rfl G137_shared G137_name rfl G137_remoteService rfl G137_hasTimestamp G137_startMicros G137_durationMicros) hZ (hw _ (List.mem_of_getElem? (i := 76) rfl)) (hw _ (List.mem_of_getElem? (i := 38) rfl)) (by decide) (by decide)) q138a q138c (g := (mkF m 155 #[.val (.int p1), .val (.int p2), .val (.int p3), .val (.long q4), .second, .val (.long q5), .second, .val (.ref b6), .val (.ref b7), .val .null, .val (.ref b93), .val (.ref b97), .val (.ref b101), .val (.ref b107), .val (.int (if (p3 &&& (1 : Int32)) = (0 : Int32) then (0 : Int32) else (1 : Int32))), .val (.int (if (p3 &&& (2 : Int32)) = (0 : Int32) then (0 : Int32) else (1 : Int32))), .val (.int (if (p3 &&& (4 : Int32)) = (0 : Int32) then (0 : Int32) else (1 : Int32))), .val (.ref (own_f7 ((((p3.toUInt32 >>> ((3 : Int32) &&& 31).toUInt32).toInt32) &&& (7 : Int32)) % (5 : Int32)) s_INTERNAL s_CLIENT s_SERVER s_PRODUCER s_CONSUMER)), .val (.ref b129), .unset] [(.ref b107), (.ref b129)])) rfl (by rw [hml]; rfl) (Steps.refl _) (argsL := [(.ref b107)]) (rest := []) (lenOf pd_0_3 rfl) rfl (by show 2 * 0 + _ ≤ _; exact Nat.le_of_eq rfl) (hb hby at_155) (fun _ _ => ⟨rfl, rfl, (by decide : 13 + 1 ≤ _), (by decide : 42 + 12 ≤ _)⟩)
    dsimp only [Pt.U, Pt.locs, Pt.cells, Pt.slots] at X138 l138 y138 z138 st138 hQ138
    replace y138 : k138 = 14 := y138
    replace z138 : n138 = 54 := z138
    subst y138 z138
    have f139 := (Exa.keep (Exa.ext E129 f130) K137)
    have f140 := (Exa.keep (Exa.ext E129 f131) K137)
    have f141 := (Exa.keep (Exa.ext E129 f132) K137)
    have f142 := (Exa.keep (Exa.ext E129 f133) K137)
    have f143 := (Exa.keep (Exa.ext E129 f134) K137)
    have f144 := (Exa.keep (Exa.ext E129 A107) K137)
    obtain ⟨rfl, N138q, K138, A138, G138_traceId, G138_id, G138_parentId, G138_awaited, G138_kind, G138_shared, G138_service, G138_name, G138_remoteService, G138_hasTimestamp, G138_startMicros, G138_durationMicros⟩ := hQ138
    have N138 : Fr n0 L138 := by rw [l138]; exact Fr.app N137 N138q
    obtain ⟨b138, g138⟩ : ∃ z, z = T137.heap.size := ⟨_, rfl⟩
    rw [← g138] at st138 A138 G138_traceId G138_id G138_parentId G138_awaited G138_kind G138_shared G138_service G138_name G138_remoteService G138_hasTimestamp G138_startMicros G138_durationMicros
    have g_b138 : n0 ≤ b138 := Nat.le_trans Z137 (Nat.le_of_eq g138.symm)
    have sz_b138 : h0.size ≤ b138 := Nat.le_trans KK137.1 (Nat.le_of_eq g138.symm)
    have Z138 : n0 ≤ T138.heap.size := Nat.le_trans Z137 K138.1
    have KK138 := Keep.trans KK137 K138 all0
    obtain ⟨cq145, kq145, q145a, q145b, q145c⟩ := isOf hZ rfl A138
    obtain ⟨_, _, ⟨T145, L145, k145, n145⟩, -, X145, ⟨Lc145, hQ145, l145, y145, z145⟩, st145⟩ := X138.virtualBack hx (y := (⟨"com/example/longpole/longpole/Span", "traceId", "()Ljava/lang/String;"⟩ : MethodName)) (z := (⟨"com/example/longpole/longpole/Span", "traceId", "()Ljava/lang/String;"⟩ : MethodName)) hown (mvT hZ (hw _ (List.mem_of_getElem? (i := 79) rfl))) (mvT hZ (hw _ (List.mem_of_getElem? (i := 80) rfl))) (notFace_of_selects (args := #[]) (mvT hZ (hw _ (List.mem_of_getElem? (i := 82) rfl)))) (mvT hZ (hw _ (List.mem_of_getElem? (i := 82) rfl))) (mvT hZ (hw _ (List.mem_of_getElem? (i := 81) rfl))) (by decide) (backOf (W := 0) (rm11 l Z a0 hw [] b138 (Value.ref b6) T138.heap n0 Z138 G138_traceId rfl) hZ (hw _ (List.mem_of_getElem? (i := 83) rfl)) (hw _ (List.mem_of_getElem? (i := 38) rfl)) (by decide) (by decide)) q145a q145c (g := (mkF m 162 #[.val (.int p1), .val (.int p2), .val (.int p3), .val (.long q4), .second, .val (.long q5), .second, .val (.ref b6), .val (.ref b7), .val .null, .val (.ref b93), .val (.ref b97), .val (.ref b101), .val (.ref b107), .val (.int (if (p3 &&& (1 : Int32)) = (0 : Int32) then (0 : Int32) else (1 : Int32))), .val (.int (if (p3 &&& (2 : Int32)) = (0 : Int32) then (0 : Int32) else (1 : Int32))), .val (.int (if (p3 &&& (4 : Int32)) = (0 : Int32) then (0 : Int32) else (1 : Int32))), .val (.ref (own_f7 ((((p3.toUInt32 >>> ((3 : Int32) &&& 31).toUInt32).toInt32) &&& (7 : Int32)) % (5 : Int32)) s_INTERNAL s_CLIENT s_SERVER s_PRODUCER s_CONSUMER)), .val (.ref b129), .val (.ref b138)] [(.ref b138)])) rfl (by rw [hml]; rfl) (Steps.refl _) (argsL := []) (rest := []) (lenOf pd_0_4 rfl) rfl (by show 2 * 0 + _ ≤ _; exact Nat.le_of_eq rfl) (hb hby at_162) (fun _ _ => ⟨rfl, rfl, (by decide : 14 + 0 ≤ _), (by decide : 54 + 0 ≤ _)⟩)
    dsimp only [Pt.U, Pt.locs, Pt.cells, Pt.slots] at X145 l145 y145 z145 st145 hQ145
    replace y145 : k145 = 14 := y145
    replace z145 : n145 = 54 := z145
    subst y145 z145
    obtain ⟨rfl, N145q, e145⟩ := hQ145
    have N145 : Fr n0 L145 := by rw [l145]; exact Fr.app N138 N145q
    have pr146 : ∀ t, Steps p.tables e below (T145.setTop (mkF m 165 #[.val (.int p1), .val (.int p2), .val (.int p3), .val (.long q4), .second, .val (.long q5), .second, .val (.ref b6), .val (.ref b7), .val .null, .val (.ref b93), .val (.ref b97), .val (.ref b101), .val (.ref b107), .val (.int (if (p3 &&& (1 : Int32)) = (0 : Int32) then (0 : Int32) else (1 : Int32))), .val (.int (if (p3 &&& (2 : Int32)) = (0 : Int32) then (0 : Int32) else (1 : Int32))), .val (.int (if (p3 &&& (4 : Int32)) = (0 : Int32) then (0 : Int32) else (1 : Int32))), .val (.ref (own_f7 ((((p3.toUInt32 >>> ((3 : Int32) &&& 31).toUInt32).toInt32) &&& (7 : Int32)) % (5 : Int32)) s_INTERNAL s_CLIENT s_SERVER s_PRODUCER s_CONSUMER)), .val (.ref b129), .val (.ref b138)] [(.ref b6)])) t → Steps p.tables e below (s₁.setTop (entryFrame m #[(.int p1), (.int p2), (.int p3), (.long q4), (.long q5)] maxLocals)) t := by
      intro t k
      refine pr136 t ?_
      show Steps p.tables e below (T129.setTop (mkF m 146 #[.val (.int p1), .val (.int p2), .val (.int p3), .val (.long q4), .second, .val (.long q5), .second, .val (.ref b6), .val (.ref b7), .val .null, .val (.ref b93), .val (.ref b97), .val (.ref b101), .val (.ref b107), .val (.int (if (p3 &&& (1 : Int32)) = (0 : Int32) then (0 : Int32) else (1 : Int32))), .val (.int (if (p3 &&& (2 : Int32)) = (0 : Int32) then (0 : Int32) else (1 : Int32))), .val (.int (if (p3 &&& (4 : Int32)) = (0 : Int32) then (0 : Int32) else (1 : Int32))), .val (.ref (own_f7 ((((p3.toUInt32 >>> ((3 : Int32) &&& 31).toUInt32).toInt32) &&& (7 : Int32)) % (5 : Int32)) s_INTERNAL s_CLIENT s_SERVER s_PRODUCER s_CONSUMER)), .unset, .unset] [(.long q5), (.long q4), (.int (if (p3 &&& (4 : Int32)) = (0 : Int32) then (0 : Int32) else (1 : Int32))), (.ref b101), (.ref b97), (.ref b93), (.int (if (p3 &&& (2 : Int32)) = (0 : Int32) then (0 : Int32) else (1 : Int32))), (.ref (own_f7 ((((p3.toUInt32 >>> ((3 : Int32) &&& 31).toUInt32).toInt32) &&& (7 : Int32)) % (5 : Int32)) s_INTERNAL s_CLIENT s_SERVER s_PRODUCER s_CONSUMER)), (.int (if (p3 &&& (1 : Int32)) = (0 : Int32) then (0 : Int32) else (1 : Int32))), .null, (.ref b7), (.ref b6), (.ref b129), (.ref b129)])) _
      refine st137.trans ?_
      show Steps p.tables e below (T137.setTop (mkF m 149 #[.val (.int p1), .val (.int p2), .val (.int p3), .val (.long q4), .second, .val (.long q5), .second, .val (.ref b6), .val (.ref b7), .val .null, .val (.ref b93), .val (.ref b97), .val (.ref b101), .val (.ref b107), .val (.int (if (p3 &&& (1 : Int32)) = (0 : Int32) then (0 : Int32) else (1 : Int32))), .val (.int (if (p3 &&& (2 : Int32)) = (0 : Int32) then (0 : Int32) else (1 : Int32))), .val (.int (if (p3 &&& (4 : Int32)) = (0 : Int32) then (0 : Int32) else (1 : Int32))), .val (.ref (own_f7 ((((p3.toUInt32 >>> ((3 : Int32) &&& 31).toUInt32).toInt32) &&& (7 : Int32)) % (5 : Int32)) s_INTERNAL s_CLIENT s_SERVER s_PRODUCER s_CONSUMER)), .unset, .unset] [(.ref b129)])) _
      refine XS.astore X137.here hx rfl (hb hby at_149) rfl rfl (l' := #[.val (.int p1), .val (.int p2), .val (.int p3), .val (.long q4), .second, .val (.long q5), .second, .val (.ref b6), .val (.ref b7), .val .null, .val (.ref b93), .val (.ref b97), .val (.ref b101), .val (.ref b107), .val (.int (if (p3 &&& (1 : Int32)) = (0 : Int32) then (0 : Int32) else (1 : Int32))), .val (.int (if (p3 &&& (2 : Int32)) = (0 : Int32) then (0 : Int32) else (1 : Int32))), .val (.int (if (p3 &&& (4 : Int32)) = (0 : Int32) then (0 : Int32) else (1 : Int32))), .val (.ref (own_f7 ((((p3.toUInt32 >>> ((3 : Int32) &&& 31).toUInt32).toInt32) &&& (7 : Int32)) % (5 : Int32)) s_INTERNAL s_CLIENT s_SERVER s_PRODUCER s_CONSUMER)), .val (.ref b129), .unset]) rfl ?_
      show Steps p.tables e below (T137.setTop (mkF m 151 #[.val (.int p1), .val (.int p2), .val (.int p3), .val (.long q4), .second, .val (.long q5), .second, .val (.ref b6), .val (.ref b7), .val .null, .val (.ref b93), .val (.ref b97), .val (.ref b101), .val (.ref b107), .val (.int (if (p3 &&& (1 : Int32)) = (0 : Int32) then (0 : Int32) else (1 : Int32))), .val (.int (if (p3 &&& (2 : Int32)) = (0 : Int32) then (0 : Int32) else (1 : Int32))), .val (.int (if (p3 &&& (4 : Int32)) = (0 : Int32) then (0 : Int32) else (1 : Int32))), .val (.ref (own_f7 ((((p3.toUInt32 >>> ((3 : Int32) &&& 31).toUInt32).toInt32) &&& (7 : Int32)) % (5 : Int32)) s_INTERNAL s_CLIENT s_SERVER s_PRODUCER s_CONSUMER)), .val (.ref b129), .unset] [])) _
      refine XS.aload X137.here hx rfl (hb hby at_151) rfl rfl ?_
      show Steps p.tables e below (T137.setTop (mkF m 153 #[.val (.int p1), .val (.int p2), .val (.int p3), .val (.long q4), .second, .val (.long q5), .second, .val (.ref b6), .val (.ref b7), .val .null, .val (.ref b93), .val (.ref b97), .val (.ref b101), .val (.ref b107), .val (.int (if (p3 &&& (1 : Int32)) = (0 : Int32) then (0 : Int32) else (1 : Int32))), .val (.int (if (p3 &&& (2 : Int32)) = (0 : Int32) then (0 : Int32) else (1 : Int32))), .val (.int (if (p3 &&& (4 : Int32)) = (0 : Int32) then (0 : Int32) else (1 : Int32))), .val (.ref (own_f7 ((((p3.toUInt32 >>> ((3 : Int32) &&& 31).toUInt32).toInt32) &&& (7 : Int32)) % (5 : Int32)) s_INTERNAL s_CLIENT s_SERVER s_PRODUCER s_CONSUMER)), .val (.ref b129), .unset] [(.ref b129)])) _
      refine XS.aload X137.here hx rfl (hb hby at_153) rfl rfl ?_
      show Steps p.tables e below (T137.setTop (mkF m 155 #[.val (.int p1), .val (.int p2), .val (.int p3), .val (.long q4), .second, .val (.long q5), .second, .val (.ref b6), .val (.ref b7), .val .null, .val (.ref b93), .val (.ref b97), .val (.ref b101), .val (.ref b107), .val (.int (if (p3 &&& (1 : Int32)) = (0 : Int32) then (0 : Int32) else (1 : Int32))), .val (.int (if (p3 &&& (2 : Int32)) = (0 : Int32) then (0 : Int32) else (1 : Int32))), .val (.int (if (p3 &&& (4 : Int32)) = (0 : Int32) then (0 : Int32) else (1 : Int32))), .val (.ref (own_f7 ((((p3.toUInt32 >>> ((3 : Int32) &&& 31).toUInt32).toInt32) &&& (7 : Int32)) % (5 : Int32)) s_INTERNAL s_CLIENT s_SERVER s_PRODUCER s_CONSUMER)), .val (.ref b129), .unset] [(.ref b107), (.ref b129)])) _
      refine st138.trans ?_
      show Steps p.tables e below (T138.setTop (mkF m 158 #[.val (.int p1), .val (.int p2), .val (.int p3), .val (.long q4), .second, .val (.long q5), .second, .val (.ref b6), .val (.ref b7), .val .null, .val (.ref b93), .val (.ref b97), .val (.ref b101), .val (.ref b107), .val (.int (if (p3 &&& (1 : Int32)) = (0 : Int32) then (0 : Int32) else (1 : Int32))), .val (.int (if (p3 &&& (2 : Int32)) = (0 : Int32) then (0 : Int32) else (1 : Int32))), .val (.int (if (p3 &&& (4 : Int32)) = (0 : Int32) then (0 : Int32) else (1 : Int32))), .val (.ref (own_f7 ((((p3.toUInt32 >>> ((3 : Int32) &&& 31).toUInt32).toInt32) &&& (7 : Int32)) % (5 : Int32)) s_INTERNAL s_CLIENT s_SERVER s_PRODUCER s_CONSUMER)), .val (.ref b129), .unset] [(.ref b138)])) _
      refine XS.astore X138.here hx rfl (hb hby at_158) rfl rfl (l' := #[.val (.int p1), .val (.int p2), .val (.int p3), .val (.long q4), .second, .val (.long q5), .second, .val (.ref b6), .val (.ref b7), .val .null, .val (.ref b93), .val (.ref b97), .val (.ref b101), .val (.ref b107), .val (.int (if (p3 &&& (1 : Int32)) = (0 : Int32) then (0 : Int32) else (1 : Int32))), .val (.int (if (p3 &&& (2 : Int32)) = (0 : Int32) then (0 : Int32) else (1 : Int32))), .val (.int (if (p3 &&& (4 : Int32)) = (0 : Int32) then (0 : Int32) else (1 : Int32))), .val (.ref (own_f7 ((((p3.toUInt32 >>> ((3 : Int32) &&& 31).toUInt32).toInt32) &&& (7 : Int32)) % (5 : Int32)) s_INTERNAL s_CLIENT s_SERVER s_PRODUCER s_CONSUMER)), .val (.ref b129), .val (.ref b138)]) rfl ?_
      show Steps p.tables e below (T138.setTop (mkF m 160 #[.val (.int p1), .val (.int p2), .val (.int p3), .val (.long q4), .second, .val (.long q5), .second, .val (.ref b6), .val (.ref b7), .val .null, .val (.ref b93), .val (.ref b97), .val (.ref b101), .val (.ref b107), .val (.int (if (p3 &&& (1 : Int32)) = (0 : Int32) then (0 : Int32) else (1 : Int32))), .val (.int (if (p3 &&& (2 : Int32)) = (0 : Int32) then (0 : Int32) else (1 : Int32))), .val (.int (if (p3 &&& (4 : Int32)) = (0 : Int32) then (0 : Int32) else (1 : Int32))), .val (.ref (own_f7 ((((p3.toUInt32 >>> ((3 : Int32) &&& 31).toUInt32).toInt32) &&& (7 : Int32)) % (5 : Int32)) s_INTERNAL s_CLIENT s_SERVER s_PRODUCER s_CONSUMER)), .val (.ref b129), .val (.ref b138)] [])) _
      refine XS.aload X138.here hx rfl (hb hby at_160) rfl rfl ?_
      show Steps p.tables e below (T138.setTop (mkF m 162 #[.val (.int p1), .val (.int p2), .val (.int p3), .val (.long q4), .second, .val (.long q5), .second, .val (.ref b6), .val (.ref b7), .val .null, .val (.ref b93), .val (.ref b97), .val (.ref b101), .val (.ref b107), .val (.int (if (p3 &&& (1 : Int32)) = (0 : Int32) then (0 : Int32) else (1 : Int32))), .val (.int (if (p3 &&& (2 : Int32)) = (0 : Int32) then (0 : Int32) else (1 : Int32))), .val (.int (if (p3 &&& (4 : Int32)) = (0 : Int32) then (0 : Int32) else (1 : Int32))), .val (.ref (own_f7 ((((p3.toUInt32 >>> ((3 : Int32) &&& 31).toUInt32).toInt32) &&& (7 : Int32)) % (5 : Int32)) s_INTERNAL s_CLIENT s_SERVER s_PRODUCER s_CONSUMER)), .val (.ref b129), .val (.ref b138)] [(.ref b138)])) _
      refine st145.trans ?_
      exact k
    obtain ⟨cq147, kq147, q147a, q147b, q147c⟩ := isOf hZ e145 A138
    obtain ⟨_, _, ⟨T147, L147, k147, n147⟩, -, X147, ⟨Lc147, hQ147, l147, y147, z147⟩, st147⟩ := X145.virtualBack hx (y := (⟨"com/example/longpole/longpole/Span", "id", "()Ljava/lang/String;"⟩ : MethodName)) (z := (⟨"com/example/longpole/longpole/Span", "id", "()Ljava/lang/String;"⟩ : MethodName)) hown (mvT hZ (hw _ (List.mem_of_getElem? (i := 84) rfl))) (mvT hZ (hw _ (List.mem_of_getElem? (i := 85) rfl))) (notFace_of_selects (args := #[]) (mvT hZ (hw _ (List.mem_of_getElem? (i := 87) rfl)))) (mvT hZ (hw _ (List.mem_of_getElem? (i := 87) rfl))) (mvT hZ (hw _ (List.mem_of_getElem? (i := 86) rfl))) (by decide) (backOf (W := 0) (rm12 l Z a0 hw [] b138 (Value.ref b7) T138.heap n0 Z138 G138_id rfl) hZ (hw _ (List.mem_of_getElem? (i := 88) rfl)) (hw _ (List.mem_of_getElem? (i := 38) rfl)) (by decide) (by decide)) q147a q147c (g := (mkF m 172 #[.val (.int p1), .val (.int p2), .val (.int p3), .val (.long q4), .second, .val (.long q5), .second, .val (.ref b6), .val (.ref b7), .val .null, .val (.ref b93), .val (.ref b97), .val (.ref b101), .val (.ref b107), .val (.int (if (p3 &&& (1 : Int32)) = (0 : Int32) then (0 : Int32) else (1 : Int32))), .val (.int (if (p3 &&& (2 : Int32)) = (0 : Int32) then (0 : Int32) else (1 : Int32))), .val (.int (if (p3 &&& (4 : Int32)) = (0 : Int32) then (0 : Int32) else (1 : Int32))), .val (.ref (own_f7 ((((p3.toUInt32 >>> ((3 : Int32) &&& 31).toUInt32).toInt32) &&& (7 : Int32)) % (5 : Int32)) s_INTERNAL s_CLIENT s_SERVER s_PRODUCER s_CONSUMER)), .val (.ref b129), .val (.ref b138)] [(.ref b138)])) rfl (by rw [hml]; rfl) (Steps.refl _) (argsL := []) (rest := []) (lenOf pd_0_4 rfl) rfl (by show 2 * 0 + _ ≤ _; exact Nat.le_of_eq rfl) (hb hby at_172) (fun _ _ => ⟨rfl, e145, (by decide : 14 + 0 ≤ _), (by decide : 54 + 0 ≤ _)⟩)
    dsimp only [Pt.U, Pt.locs, Pt.cells, Pt.slots] at X147 l147 y147 z147 st147 hQ147
    replace y147 : k147 = 14 := y147
    replace z147 : n147 = 54 := z147
    subst y147 z147
    obtain ⟨rfl, N147q, e147⟩ := hQ147
    have N147 : Fr n0 L147 := by rw [l147]; exact Fr.app N145 N147q
    obtain ⟨cq148, kq148, q148a, q148b, q148c⟩ := isOf hZ e147 A138
    obtain ⟨_, _, ⟨T148, L148, k148, n148⟩, -, X148, ⟨Lc148, hQ148, l148, y148, z148⟩, st148⟩ := X147.virtualBack hx (y := (⟨"com/example/longpole/longpole/Span", "parentId", "()Ljava/lang/String;"⟩ : MethodName)) (z := (⟨"com/example/longpole/longpole/Span", "parentId", "()Ljava/lang/String;"⟩ : MethodName)) hown (mvT hZ (hw _ (List.mem_of_getElem? (i := 89) rfl))) (mvT hZ (hw _ (List.mem_of_getElem? (i := 90) rfl))) (notFace_of_selects (args := #[]) (mvT hZ (hw _ (List.mem_of_getElem? (i := 92) rfl)))) (mvT hZ (hw _ (List.mem_of_getElem? (i := 92) rfl))) (mvT hZ (hw _ (List.mem_of_getElem? (i := 91) rfl))) (by decide) (backOf (W := 0) (rm13 l Z a0 hw [] b138 Value.null T138.heap n0 Z138 G138_parentId rfl) hZ (hw _ (List.mem_of_getElem? (i := 93) rfl)) (hw _ (List.mem_of_getElem? (i := 38) rfl)) (by decide) (by decide)) q148a q148c (g := (mkF m 182 #[.val (.int p1), .val (.int p2), .val (.int p3), .val (.long q4), .second, .val (.long q5), .second, .val (.ref b6), .val (.ref b7), .val .null, .val (.ref b93), .val (.ref b97), .val (.ref b101), .val (.ref b107), .val (.int (if (p3 &&& (1 : Int32)) = (0 : Int32) then (0 : Int32) else (1 : Int32))), .val (.int (if (p3 &&& (2 : Int32)) = (0 : Int32) then (0 : Int32) else (1 : Int32))), .val (.int (if (p3 &&& (4 : Int32)) = (0 : Int32) then (0 : Int32) else (1 : Int32))), .val (.ref (own_f7 ((((p3.toUInt32 >>> ((3 : Int32) &&& 31).toUInt32).toInt32) &&& (7 : Int32)) % (5 : Int32)) s_INTERNAL s_CLIENT s_SERVER s_PRODUCER s_CONSUMER)), .val (.ref b129), .val (.ref b138)] [(.ref b138)])) rfl (by rw [hml]; rfl) (Steps.refl _) (argsL := []) (rest := []) (lenOf pd_0_4 rfl) rfl (by show 2 * 0 + _ ≤ _; exact Nat.le_of_eq rfl) (hb hby at_182) (fun _ _ => ⟨rfl, e147, (by decide : 14 + 0 ≤ _), (by decide : 54 + 0 ≤ _)⟩)
    dsimp only [Pt.U, Pt.locs, Pt.cells, Pt.slots] at X148 l148 y148 z148 st148 hQ148
    replace y148 : k148 = 14 := y148
    replace z148 : n148 = 54 := z148
    subst y148 z148
    obtain ⟨rfl, N148q, e148⟩ := hQ148
    have N148 : Fr n0 L148 := by rw [l148]; exact Fr.app N147 N148q
    have pr149 : ∀ t, Steps p.tables e below (T148.setTop (mkF m 185 #[.val (.int p1), .val (.int p2), .val (.int p3), .val (.long q4), .second, .val (.long q5), .second, .val (.ref b6), .val (.ref b7), .val .null, .val (.ref b93), .val (.ref b97), .val (.ref b101), .val (.ref b107), .val (.int (if (p3 &&& (1 : Int32)) = (0 : Int32) then (0 : Int32) else (1 : Int32))), .val (.int (if (p3 &&& (2 : Int32)) = (0 : Int32) then (0 : Int32) else (1 : Int32))), .val (.int (if (p3 &&& (4 : Int32)) = (0 : Int32) then (0 : Int32) else (1 : Int32))), .val (.ref (own_f7 ((((p3.toUInt32 >>> ((3 : Int32) &&& 31).toUInt32).toInt32) &&& (7 : Int32)) % (5 : Int32)) s_INTERNAL s_CLIENT s_SERVER s_PRODUCER s_CONSUMER)), .val (.ref b129), .val (.ref b138)] [.null])) t → Steps p.tables e below (s₁.setTop (entryFrame m #[(.int p1), (.int p2), (.int p3), (.long q4), (.long q5)] maxLocals)) t := by
      intro t k
      refine pr146 t ?_
      show Steps p.tables e below (T145.setTop (mkF m 165 #[.val (.int p1), .val (.int p2), .val (.int p3), .val (.long q4), .second, .val (.long q5), .second, .val (.ref b6), .val (.ref b7), .val .null, .val (.ref b93), .val (.ref b97), .val (.ref b101), .val (.ref b107), .val (.int (if (p3 &&& (1 : Int32)) = (0 : Int32) then (0 : Int32) else (1 : Int32))), .val (.int (if (p3 &&& (2 : Int32)) = (0 : Int32) then (0 : Int32) else (1 : Int32))), .val (.int (if (p3 &&& (4 : Int32)) = (0 : Int32) then (0 : Int32) else (1 : Int32))), .val (.ref (own_f7 ((((p3.toUInt32 >>> ((3 : Int32) &&& 31).toUInt32).toInt32) &&& (7 : Int32)) % (5 : Int32)) s_INTERNAL s_CLIENT s_SERVER s_PRODUCER s_CONSUMER)), .val (.ref b129), .val (.ref b138)] [(.ref b6)])) _
      refine XS.aload X145.here hx rfl (hb hby at_165) rfl rfl ?_
      show Steps p.tables e below (T145.setTop (mkF m 167 #[.val (.int p1), .val (.int p2), .val (.int p3), .val (.long q4), .second, .val (.long q5), .second, .val (.ref b6), .val (.ref b7), .val .null, .val (.ref b93), .val (.ref b97), .val (.ref b101), .val (.ref b107), .val (.int (if (p3 &&& (1 : Int32)) = (0 : Int32) then (0 : Int32) else (1 : Int32))), .val (.int (if (p3 &&& (2 : Int32)) = (0 : Int32) then (0 : Int32) else (1 : Int32))), .val (.int (if (p3 &&& (4 : Int32)) = (0 : Int32) then (0 : Int32) else (1 : Int32))), .val (.ref (own_f7 ((((p3.toUInt32 >>> ((3 : Int32) &&& 31).toUInt32).toInt32) &&& (7 : Int32)) % (5 : Int32)) s_INTERNAL s_CLIENT s_SERVER s_PRODUCER s_CONSUMER)), .val (.ref b129), .val (.ref b138)] [(.ref b6), (.ref b6)])) _
      refine Jvm.RoadKit.acmp (g := (mkF m 167 #[.val (.int p1), .val (.int p2), .val (.int p3), .val (.long q4), .second, .val (.long q5), .second, .val (.ref b6), .val (.ref b7), .val .null, .val (.ref b93), .val (.ref b97), .val (.ref b101), .val (.ref b107), .val (.int (if (p3 &&& (1 : Int32)) = (0 : Int32) then (0 : Int32) else (1 : Int32))), .val (.int (if (p3 &&& (2 : Int32)) = (0 : Int32) then (0 : Int32) else (1 : Int32))), .val (.int (if (p3 &&& (4 : Int32)) = (0 : Int32) then (0 : Int32) else (1 : Int32))), .val (.ref (own_f7 ((((p3.toUInt32 >>> ((3 : Int32) &&& 31).toUInt32).toInt32) &&& (7 : Int32)) % (5 : Int32)) s_INTERNAL s_CLIENT s_SERVER s_PRODUCER s_CONSUMER)), .val (.ref b129), .val (.ref b138)] [(.ref b6), (.ref b6)])) X145 hx rfl rfl rfl (pc0 := 167) (pc' := 170) (same := true) rfl (hb hby at_167) rfl (decide_eq_true rfl) (by decide) (by decide) ?_
      show Steps p.tables e below (T145.setTop (mkF m 170 #[.val (.int p1), .val (.int p2), .val (.int p3), .val (.long q4), .second, .val (.long q5), .second, .val (.ref b6), .val (.ref b7), .val .null, .val (.ref b93), .val (.ref b97), .val (.ref b101), .val (.ref b107), .val (.int (if (p3 &&& (1 : Int32)) = (0 : Int32) then (0 : Int32) else (1 : Int32))), .val (.int (if (p3 &&& (2 : Int32)) = (0 : Int32) then (0 : Int32) else (1 : Int32))), .val (.int (if (p3 &&& (4 : Int32)) = (0 : Int32) then (0 : Int32) else (1 : Int32))), .val (.ref (own_f7 ((((p3.toUInt32 >>> ((3 : Int32) &&& 31).toUInt32).toInt32) &&& (7 : Int32)) % (5 : Int32)) s_INTERNAL s_CLIENT s_SERVER s_PRODUCER s_CONSUMER)), .val (.ref b129), .val (.ref b138)] [])) _
      refine XS.aload X145.here hx rfl (hb hby at_170) rfl rfl ?_
      show Steps p.tables e below (T145.setTop (mkF m 172 #[.val (.int p1), .val (.int p2), .val (.int p3), .val (.long q4), .second, .val (.long q5), .second, .val (.ref b6), .val (.ref b7), .val .null, .val (.ref b93), .val (.ref b97), .val (.ref b101), .val (.ref b107), .val (.int (if (p3 &&& (1 : Int32)) = (0 : Int32) then (0 : Int32) else (1 : Int32))), .val (.int (if (p3 &&& (2 : Int32)) = (0 : Int32) then (0 : Int32) else (1 : Int32))), .val (.int (if (p3 &&& (4 : Int32)) = (0 : Int32) then (0 : Int32) else (1 : Int32))), .val (.ref (own_f7 ((((p3.toUInt32 >>> ((3 : Int32) &&& 31).toUInt32).toInt32) &&& (7 : Int32)) % (5 : Int32)) s_INTERNAL s_CLIENT s_SERVER s_PRODUCER s_CONSUMER)), .val (.ref b129), .val (.ref b138)] [(.ref b138)])) _
      refine st147.trans ?_
      show Steps p.tables e below (T147.setTop (mkF m 175 #[.val (.int p1), .val (.int p2), .val (.int p3), .val (.long q4), .second, .val (.long q5), .second, .val (.ref b6), .val (.ref b7), .val .null, .val (.ref b93), .val (.ref b97), .val (.ref b101), .val (.ref b107), .val (.int (if (p3 &&& (1 : Int32)) = (0 : Int32) then (0 : Int32) else (1 : Int32))), .val (.int (if (p3 &&& (2 : Int32)) = (0 : Int32) then (0 : Int32) else (1 : Int32))), .val (.int (if (p3 &&& (4 : Int32)) = (0 : Int32) then (0 : Int32) else (1 : Int32))), .val (.ref (own_f7 ((((p3.toUInt32 >>> ((3 : Int32) &&& 31).toUInt32).toInt32) &&& (7 : Int32)) % (5 : Int32)) s_INTERNAL s_CLIENT s_SERVER s_PRODUCER s_CONSUMER)), .val (.ref b129), .val (.ref b138)] [(.ref b7)])) _
      refine XS.aload X147.here hx rfl (hb hby at_175) rfl rfl ?_
      show Steps p.tables e below (T147.setTop (mkF m 177 #[.val (.int p1), .val (.int p2), .val (.int p3), .val (.long q4), .second, .val (.long q5), .second, .val (.ref b6), .val (.ref b7), .val .null, .val (.ref b93), .val (.ref b97), .val (.ref b101), .val (.ref b107), .val (.int (if (p3 &&& (1 : Int32)) = (0 : Int32) then (0 : Int32) else (1 : Int32))), .val (.int (if (p3 &&& (2 : Int32)) = (0 : Int32) then (0 : Int32) else (1 : Int32))), .val (.int (if (p3 &&& (4 : Int32)) = (0 : Int32) then (0 : Int32) else (1 : Int32))), .val (.ref (own_f7 ((((p3.toUInt32 >>> ((3 : Int32) &&& 31).toUInt32).toInt32) &&& (7 : Int32)) % (5 : Int32)) s_INTERNAL s_CLIENT s_SERVER s_PRODUCER s_CONSUMER)), .val (.ref b129), .val (.ref b138)] [(.ref b7), (.ref b7)])) _
      refine Jvm.RoadKit.acmp (g := (mkF m 177 #[.val (.int p1), .val (.int p2), .val (.int p3), .val (.long q4), .second, .val (.long q5), .second, .val (.ref b6), .val (.ref b7), .val .null, .val (.ref b93), .val (.ref b97), .val (.ref b101), .val (.ref b107), .val (.int (if (p3 &&& (1 : Int32)) = (0 : Int32) then (0 : Int32) else (1 : Int32))), .val (.int (if (p3 &&& (2 : Int32)) = (0 : Int32) then (0 : Int32) else (1 : Int32))), .val (.int (if (p3 &&& (4 : Int32)) = (0 : Int32) then (0 : Int32) else (1 : Int32))), .val (.ref (own_f7 ((((p3.toUInt32 >>> ((3 : Int32) &&& 31).toUInt32).toInt32) &&& (7 : Int32)) % (5 : Int32)) s_INTERNAL s_CLIENT s_SERVER s_PRODUCER s_CONSUMER)), .val (.ref b129), .val (.ref b138)] [(.ref b7), (.ref b7)])) X147 hx rfl rfl rfl (pc0 := 177) (pc' := 180) (same := true) rfl (hb hby at_177) rfl (decide_eq_true rfl) (by decide) (by decide) ?_
      show Steps p.tables e below (T147.setTop (mkF m 180 #[.val (.int p1), .val (.int p2), .val (.int p3), .val (.long q4), .second, .val (.long q5), .second, .val (.ref b6), .val (.ref b7), .val .null, .val (.ref b93), .val (.ref b97), .val (.ref b101), .val (.ref b107), .val (.int (if (p3 &&& (1 : Int32)) = (0 : Int32) then (0 : Int32) else (1 : Int32))), .val (.int (if (p3 &&& (2 : Int32)) = (0 : Int32) then (0 : Int32) else (1 : Int32))), .val (.int (if (p3 &&& (4 : Int32)) = (0 : Int32) then (0 : Int32) else (1 : Int32))), .val (.ref (own_f7 ((((p3.toUInt32 >>> ((3 : Int32) &&& 31).toUInt32).toInt32) &&& (7 : Int32)) % (5 : Int32)) s_INTERNAL s_CLIENT s_SERVER s_PRODUCER s_CONSUMER)), .val (.ref b129), .val (.ref b138)] [])) _
      refine XS.aload X147.here hx rfl (hb hby at_180) rfl rfl ?_
      show Steps p.tables e below (T147.setTop (mkF m 182 #[.val (.int p1), .val (.int p2), .val (.int p3), .val (.long q4), .second, .val (.long q5), .second, .val (.ref b6), .val (.ref b7), .val .null, .val (.ref b93), .val (.ref b97), .val (.ref b101), .val (.ref b107), .val (.int (if (p3 &&& (1 : Int32)) = (0 : Int32) then (0 : Int32) else (1 : Int32))), .val (.int (if (p3 &&& (2 : Int32)) = (0 : Int32) then (0 : Int32) else (1 : Int32))), .val (.int (if (p3 &&& (4 : Int32)) = (0 : Int32) then (0 : Int32) else (1 : Int32))), .val (.ref (own_f7 ((((p3.toUInt32 >>> ((3 : Int32) &&& 31).toUInt32).toInt32) &&& (7 : Int32)) % (5 : Int32)) s_INTERNAL s_CLIENT s_SERVER s_PRODUCER s_CONSUMER)), .val (.ref b129), .val (.ref b138)] [(.ref b138)])) _
      refine st148.trans ?_
      exact k
    obtain ⟨cq150, kq150, q150a, q150b, q150c⟩ := isOf hZ e148 A138
    obtain ⟨_, _, ⟨T150, L150, k150, n150⟩, -, X150, ⟨Lc150, hQ150, l150, y150, z150⟩, st150⟩ := X148.virtualBack hx (y := (⟨"com/example/longpole/longpole/Span", "awaited", "()Z"⟩ : MethodName)) (z := (⟨"com/example/longpole/longpole/Span", "awaited", "()Z"⟩ : MethodName)) hown (mvT hZ (hw _ (List.mem_of_getElem? (i := 94) rfl))) (mvT hZ (hw _ (List.mem_of_getElem? (i := 95) rfl))) (notFace_of_selects (args := #[]) (mvT hZ (hw _ (List.mem_of_getElem? (i := 97) rfl)))) (mvT hZ (hw _ (List.mem_of_getElem? (i := 97) rfl))) (mvT hZ (hw _ (List.mem_of_getElem? (i := 96) rfl))) (by decide) (backOf (W := 0) (rm14 l Z a0 hw [] b138 (nar .boolean (nar .boolean (if (p3 &&& (1 : Int32)) = (0 : Int32) then (0 : Int32) else (1 : Int32)))) T138.heap n0 Z138 G138_awaited) hZ (hw _ (List.mem_of_getElem? (i := 98) rfl)) (hw _ (List.mem_of_getElem? (i := 38) rfl)) (by decide) (by decide)) q150a q150c (g := (mkF m 192 #[.val (.int p1), .val (.int p2), .val (.int p3), .val (.long q4), .second, .val (.long q5), .second, .val (.ref b6), .val (.ref b7), .val .null, .val (.ref b93), .val (.ref b97), .val (.ref b101), .val (.ref b107), .val (.int (if (p3 &&& (1 : Int32)) = (0 : Int32) then (0 : Int32) else (1 : Int32))), .val (.int (if (p3 &&& (2 : Int32)) = (0 : Int32) then (0 : Int32) else (1 : Int32))), .val (.int (if (p3 &&& (4 : Int32)) = (0 : Int32) then (0 : Int32) else (1 : Int32))), .val (.ref (own_f7 ((((p3.toUInt32 >>> ((3 : Int32) &&& 31).toUInt32).toInt32) &&& (7 : Int32)) % (5 : Int32)) s_INTERNAL s_CLIENT s_SERVER s_PRODUCER s_CONSUMER)), .val (.ref b129), .val (.ref b138)] [(.ref b138)])) rfl (by rw [hml]; rfl) (Steps.refl _) (argsL := []) (rest := []) (lenOf pd_0_5 rfl) rfl (by show 2 * 0 + _ ≤ _; exact Nat.le_of_eq rfl) (hb hby at_192) (fun _ _ => ⟨rfl, e148, (by decide : 14 + 0 ≤ _), (by decide : 54 + 0 ≤ _)⟩)
    dsimp only [Pt.U, Pt.locs, Pt.cells, Pt.slots] at X150 l150 y150 z150 st150 hQ150
    replace y150 : k150 = 14 := y150
    replace z150 : n150 = 54 := z150
    subst y150 z150
    obtain ⟨rfl, N150q, e150⟩ := hQ150
    have N150 : Fr n0 L150 := by rw [l150]; exact Fr.app N148 N150q
    obtain ⟨cq151, kq151, q151a, q151b, q151c⟩ := isOf hZ e150 A138
    obtain ⟨_, _, ⟨T151, L151, k151, n151⟩, -, X151, ⟨Lc151, hQ151, l151, y151, z151⟩, st151⟩ := X150.virtualBack hx (y := (⟨"com/example/longpole/longpole/Span", "kind", "()Lcom/example/longpole/longpole/Span$Kind;"⟩ : MethodName)) (z := (⟨"com/example/longpole/longpole/Span", "kind", "()Lcom/example/longpole/longpole/Span$Kind;"⟩ : MethodName)) hown (mvT hZ (hw _ (List.mem_of_getElem? (i := 99) rfl))) (mvT hZ (hw _ (List.mem_of_getElem? (i := 100) rfl))) (notFace_of_selects (args := #[]) (mvT hZ (hw _ (List.mem_of_getElem? (i := 102) rfl)))) (mvT hZ (hw _ (List.mem_of_getElem? (i := 102) rfl))) (mvT hZ (hw _ (List.mem_of_getElem? (i := 101) rfl))) (by decide) (backOf (W := 0) (rm15 l Z a0 hw [] b138 (Value.ref (own_f7 ((((p3.toUInt32 >>> ((3 : Int32) &&& 31).toUInt32).toInt32) &&& (7 : Int32)) % (5 : Int32)) s_INTERNAL s_CLIENT s_SERVER s_PRODUCER s_CONSUMER)) T138.heap n0 Z138 G138_kind rfl) hZ (hw _ (List.mem_of_getElem? (i := 103) rfl)) (hw _ (List.mem_of_getElem? (i := 38) rfl)) (by decide) (by decide)) q151a q151c (g := (mkF m 202 #[.val (.int p1), .val (.int p2), .val (.int p3), .val (.long q4), .second, .val (.long q5), .second, .val (.ref b6), .val (.ref b7), .val .null, .val (.ref b93), .val (.ref b97), .val (.ref b101), .val (.ref b107), .val (.int (if (p3 &&& (1 : Int32)) = (0 : Int32) then (0 : Int32) else (1 : Int32))), .val (.int (if (p3 &&& (2 : Int32)) = (0 : Int32) then (0 : Int32) else (1 : Int32))), .val (.int (if (p3 &&& (4 : Int32)) = (0 : Int32) then (0 : Int32) else (1 : Int32))), .val (.ref (own_f7 ((((p3.toUInt32 >>> ((3 : Int32) &&& 31).toUInt32).toInt32) &&& (7 : Int32)) % (5 : Int32)) s_INTERNAL s_CLIENT s_SERVER s_PRODUCER s_CONSUMER)), .val (.ref b129), .val (.ref b138)] [(.ref b138)])) rfl (by rw [hml]; rfl) (Steps.refl _) (argsL := []) (rest := []) (lenOf pd_0_6 rfl) rfl (by show 2 * 0 + _ ≤ _; exact Nat.le_of_eq rfl) (hb hby at_202) (fun _ _ => ⟨rfl, e150, (by decide : 14 + 0 ≤ _), (by decide : 54 + 0 ≤ _)⟩)
    dsimp only [Pt.U, Pt.locs, Pt.cells, Pt.slots] at X151 l151 y151 z151 st151 hQ151
    replace y151 : k151 = 14 := y151
    replace z151 : n151 = 54 := z151
    subst y151 z151
    obtain ⟨rfl, N151q, e151⟩ := hQ151
    have N151 : Fr n0 L151 := by rw [l151]; exact Fr.app N150 N151q
    have pr152 : ∀ t, Steps p.tables e below (T151.setTop (mkF m 205 #[.val (.int p1), .val (.int p2), .val (.int p3), .val (.long q4), .second, .val (.long q5), .second, .val (.ref b6), .val (.ref b7), .val .null, .val (.ref b93), .val (.ref b97), .val (.ref b101), .val (.ref b107), .val (.int (if (p3 &&& (1 : Int32)) = (0 : Int32) then (0 : Int32) else (1 : Int32))), .val (.int (if (p3 &&& (2 : Int32)) = (0 : Int32) then (0 : Int32) else (1 : Int32))), .val (.int (if (p3 &&& (4 : Int32)) = (0 : Int32) then (0 : Int32) else (1 : Int32))), .val (.ref (own_f7 ((((p3.toUInt32 >>> ((3 : Int32) &&& 31).toUInt32).toInt32) &&& (7 : Int32)) % (5 : Int32)) s_INTERNAL s_CLIENT s_SERVER s_PRODUCER s_CONSUMER)), .val (.ref b129), .val (.ref b138)] [(.ref (own_f7 ((((p3.toUInt32 >>> ((3 : Int32) &&& 31).toUInt32).toInt32) &&& (7 : Int32)) % (5 : Int32)) s_INTERNAL s_CLIENT s_SERVER s_PRODUCER s_CONSUMER))])) t → Steps p.tables e below (s₁.setTop (entryFrame m #[(.int p1), (.int p2), (.int p3), (.long q4), (.long q5)] maxLocals)) t := by
      intro t k
      refine pr149 t ?_
      show Steps p.tables e below (T148.setTop (mkF m 185 #[.val (.int p1), .val (.int p2), .val (.int p3), .val (.long q4), .second, .val (.long q5), .second, .val (.ref b6), .val (.ref b7), .val .null, .val (.ref b93), .val (.ref b97), .val (.ref b101), .val (.ref b107), .val (.int (if (p3 &&& (1 : Int32)) = (0 : Int32) then (0 : Int32) else (1 : Int32))), .val (.int (if (p3 &&& (2 : Int32)) = (0 : Int32) then (0 : Int32) else (1 : Int32))), .val (.int (if (p3 &&& (4 : Int32)) = (0 : Int32) then (0 : Int32) else (1 : Int32))), .val (.ref (own_f7 ((((p3.toUInt32 >>> ((3 : Int32) &&& 31).toUInt32).toInt32) &&& (7 : Int32)) % (5 : Int32)) s_INTERNAL s_CLIENT s_SERVER s_PRODUCER s_CONSUMER)), .val (.ref b129), .val (.ref b138)] [.null])) _
      refine XS.aload X148.here hx rfl (hb hby at_185) rfl rfl ?_
      show Steps p.tables e below (T148.setTop (mkF m 187 #[.val (.int p1), .val (.int p2), .val (.int p3), .val (.long q4), .second, .val (.long q5), .second, .val (.ref b6), .val (.ref b7), .val .null, .val (.ref b93), .val (.ref b97), .val (.ref b101), .val (.ref b107), .val (.int (if (p3 &&& (1 : Int32)) = (0 : Int32) then (0 : Int32) else (1 : Int32))), .val (.int (if (p3 &&& (2 : Int32)) = (0 : Int32) then (0 : Int32) else (1 : Int32))), .val (.int (if (p3 &&& (4 : Int32)) = (0 : Int32) then (0 : Int32) else (1 : Int32))), .val (.ref (own_f7 ((((p3.toUInt32 >>> ((3 : Int32) &&& 31).toUInt32).toInt32) &&& (7 : Int32)) % (5 : Int32)) s_INTERNAL s_CLIENT s_SERVER s_PRODUCER s_CONSUMER)), .val (.ref b129), .val (.ref b138)] [.null, .null])) _
      refine Jvm.RoadKit.acmp (g := (mkF m 187 #[.val (.int p1), .val (.int p2), .val (.int p3), .val (.long q4), .second, .val (.long q5), .second, .val (.ref b6), .val (.ref b7), .val .null, .val (.ref b93), .val (.ref b97), .val (.ref b101), .val (.ref b107), .val (.int (if (p3 &&& (1 : Int32)) = (0 : Int32) then (0 : Int32) else (1 : Int32))), .val (.int (if (p3 &&& (2 : Int32)) = (0 : Int32) then (0 : Int32) else (1 : Int32))), .val (.int (if (p3 &&& (4 : Int32)) = (0 : Int32) then (0 : Int32) else (1 : Int32))), .val (.ref (own_f7 ((((p3.toUInt32 >>> ((3 : Int32) &&& 31).toUInt32).toInt32) &&& (7 : Int32)) % (5 : Int32)) s_INTERNAL s_CLIENT s_SERVER s_PRODUCER s_CONSUMER)), .val (.ref b129), .val (.ref b138)] [.null, .null])) X148 hx rfl rfl rfl (pc0 := 187) (pc' := 190) (same := true) rfl (hb hby at_187) rfl (decide_eq_true rfl) (by decide) (by decide) ?_
      show Steps p.tables e below (T148.setTop (mkF m 190 #[.val (.int p1), .val (.int p2), .val (.int p3), .val (.long q4), .second, .val (.long q5), .second, .val (.ref b6), .val (.ref b7), .val .null, .val (.ref b93), .val (.ref b97), .val (.ref b101), .val (.ref b107), .val (.int (if (p3 &&& (1 : Int32)) = (0 : Int32) then (0 : Int32) else (1 : Int32))), .val (.int (if (p3 &&& (2 : Int32)) = (0 : Int32) then (0 : Int32) else (1 : Int32))), .val (.int (if (p3 &&& (4 : Int32)) = (0 : Int32) then (0 : Int32) else (1 : Int32))), .val (.ref (own_f7 ((((p3.toUInt32 >>> ((3 : Int32) &&& 31).toUInt32).toInt32) &&& (7 : Int32)) % (5 : Int32)) s_INTERNAL s_CLIENT s_SERVER s_PRODUCER s_CONSUMER)), .val (.ref b129), .val (.ref b138)] [])) _
      refine XS.aload X148.here hx rfl (hb hby at_190) rfl rfl ?_
      show Steps p.tables e below (T148.setTop (mkF m 192 #[.val (.int p1), .val (.int p2), .val (.int p3), .val (.long q4), .second, .val (.long q5), .second, .val (.ref b6), .val (.ref b7), .val .null, .val (.ref b93), .val (.ref b97), .val (.ref b101), .val (.ref b107), .val (.int (if (p3 &&& (1 : Int32)) = (0 : Int32) then (0 : Int32) else (1 : Int32))), .val (.int (if (p3 &&& (2 : Int32)) = (0 : Int32) then (0 : Int32) else (1 : Int32))), .val (.int (if (p3 &&& (4 : Int32)) = (0 : Int32) then (0 : Int32) else (1 : Int32))), .val (.ref (own_f7 ((((p3.toUInt32 >>> ((3 : Int32) &&& 31).toUInt32).toInt32) &&& (7 : Int32)) % (5 : Int32)) s_INTERNAL s_CLIENT s_SERVER s_PRODUCER s_CONSUMER)), .val (.ref b129), .val (.ref b138)] [(.ref b138)])) _
      refine st150.trans ?_
      show Steps p.tables e below (T150.setTop (mkF m 195 #[.val (.int p1), .val (.int p2), .val (.int p3), .val (.long q4), .second, .val (.long q5), .second, .val (.ref b6), .val (.ref b7), .val .null, .val (.ref b93), .val (.ref b97), .val (.ref b101), .val (.ref b107), .val (.int (if (p3 &&& (1 : Int32)) = (0 : Int32) then (0 : Int32) else (1 : Int32))), .val (.int (if (p3 &&& (2 : Int32)) = (0 : Int32) then (0 : Int32) else (1 : Int32))), .val (.int (if (p3 &&& (4 : Int32)) = (0 : Int32) then (0 : Int32) else (1 : Int32))), .val (.ref (own_f7 ((((p3.toUInt32 >>> ((3 : Int32) &&& 31).toUInt32).toInt32) &&& (7 : Int32)) % (5 : Int32)) s_INTERNAL s_CLIENT s_SERVER s_PRODUCER s_CONSUMER)), .val (.ref b129), .val (.ref b138)] [(.int (nar .boolean (nar .boolean (nar .boolean (if (p3 &&& (1 : Int32)) = (0 : Int32) then (0 : Int32) else (1 : Int32))))))])) _
      refine XS.iload X150.here hx rfl (hb hby at_195) rfl ?_
      show Steps p.tables e below (T150.setTop (mkF m 197 #[.val (.int p1), .val (.int p2), .val (.int p3), .val (.long q4), .second, .val (.long q5), .second, .val (.ref b6), .val (.ref b7), .val .null, .val (.ref b93), .val (.ref b97), .val (.ref b101), .val (.ref b107), .val (.int (if (p3 &&& (1 : Int32)) = (0 : Int32) then (0 : Int32) else (1 : Int32))), .val (.int (if (p3 &&& (2 : Int32)) = (0 : Int32) then (0 : Int32) else (1 : Int32))), .val (.int (if (p3 &&& (4 : Int32)) = (0 : Int32) then (0 : Int32) else (1 : Int32))), .val (.ref (own_f7 ((((p3.toUInt32 >>> ((3 : Int32) &&& 31).toUInt32).toInt32) &&& (7 : Int32)) % (5 : Int32)) s_INTERNAL s_CLIENT s_SERVER s_PRODUCER s_CONSUMER)), .val (.ref b129), .val (.ref b138)] [(.int (if (p3 &&& (1 : Int32)) = (0 : Int32) then (0 : Int32) else (1 : Int32))), (.int (nar .boolean (nar .boolean (nar .boolean (if (p3 &&& (1 : Int32)) = (0 : Int32) then (0 : Int32) else (1 : Int32))))))])) _
      refine XS.icmpNo X150.here hx rfl (hb hby at_197) rfl (teq (by simp only [own_narN, own_narIf] : (nar .boolean (nar .boolean (nar .boolean (if (p3 &&& (1 : Int32)) = (0 : Int32) then (0 : Int32) else (1 : Int32))))) = (if (p3 &&& (1 : Int32)) = (0 : Int32) then (0 : Int32) else (1 : Int32)))).2 ?_
      show Steps p.tables e below (T150.setTop (mkF m 200 #[.val (.int p1), .val (.int p2), .val (.int p3), .val (.long q4), .second, .val (.long q5), .second, .val (.ref b6), .val (.ref b7), .val .null, .val (.ref b93), .val (.ref b97), .val (.ref b101), .val (.ref b107), .val (.int (if (p3 &&& (1 : Int32)) = (0 : Int32) then (0 : Int32) else (1 : Int32))), .val (.int (if (p3 &&& (2 : Int32)) = (0 : Int32) then (0 : Int32) else (1 : Int32))), .val (.int (if (p3 &&& (4 : Int32)) = (0 : Int32) then (0 : Int32) else (1 : Int32))), .val (.ref (own_f7 ((((p3.toUInt32 >>> ((3 : Int32) &&& 31).toUInt32).toInt32) &&& (7 : Int32)) % (5 : Int32)) s_INTERNAL s_CLIENT s_SERVER s_PRODUCER s_CONSUMER)), .val (.ref b129), .val (.ref b138)] [])) _
      refine XS.aload X150.here hx rfl (hb hby at_200) rfl rfl ?_
      show Steps p.tables e below (T150.setTop (mkF m 202 #[.val (.int p1), .val (.int p2), .val (.int p3), .val (.long q4), .second, .val (.long q5), .second, .val (.ref b6), .val (.ref b7), .val .null, .val (.ref b93), .val (.ref b97), .val (.ref b101), .val (.ref b107), .val (.int (if (p3 &&& (1 : Int32)) = (0 : Int32) then (0 : Int32) else (1 : Int32))), .val (.int (if (p3 &&& (2 : Int32)) = (0 : Int32) then (0 : Int32) else (1 : Int32))), .val (.int (if (p3 &&& (4 : Int32)) = (0 : Int32) then (0 : Int32) else (1 : Int32))), .val (.ref (own_f7 ((((p3.toUInt32 >>> ((3 : Int32) &&& 31).toUInt32).toInt32) &&& (7 : Int32)) % (5 : Int32)) s_INTERNAL s_CLIENT s_SERVER s_PRODUCER s_CONSUMER)), .val (.ref b129), .val (.ref b138)] [(.ref b138)])) _
      refine st151.trans ?_
      exact k
    obtain ⟨cq153, kq153, q153a, q153b, q153c⟩ := isOf hZ e151 A138
    obtain ⟨_, _, ⟨T153, L153, k153, n153⟩, -, X153, ⟨Lc153, hQ153, l153, y153, z153⟩, st153⟩ := X151.virtualBack hx (y := (⟨"com/example/longpole/longpole/Span", "shared", "()Z"⟩ : MethodName)) (z := (⟨"com/example/longpole/longpole/Span", "shared", "()Z"⟩ : MethodName)) hown (mvT hZ (hw _ (List.mem_of_getElem? (i := 104) rfl))) (mvT hZ (hw _ (List.mem_of_getElem? (i := 105) rfl))) (notFace_of_selects (args := #[]) (mvT hZ (hw _ (List.mem_of_getElem? (i := 107) rfl)))) (mvT hZ (hw _ (List.mem_of_getElem? (i := 107) rfl))) (mvT hZ (hw _ (List.mem_of_getElem? (i := 106) rfl))) (by decide) (backOf (W := 0) (rm16 l Z a0 hw [] b138 (nar .boolean (nar .boolean (if (p3 &&& (2 : Int32)) = (0 : Int32) then (0 : Int32) else (1 : Int32)))) T138.heap n0 Z138 G138_shared) hZ (hw _ (List.mem_of_getElem? (i := 108) rfl)) (hw _ (List.mem_of_getElem? (i := 38) rfl)) (by decide) (by decide)) q153a q153c (g := (mkF m 212 #[.val (.int p1), .val (.int p2), .val (.int p3), .val (.long q4), .second, .val (.long q5), .second, .val (.ref b6), .val (.ref b7), .val .null, .val (.ref b93), .val (.ref b97), .val (.ref b101), .val (.ref b107), .val (.int (if (p3 &&& (1 : Int32)) = (0 : Int32) then (0 : Int32) else (1 : Int32))), .val (.int (if (p3 &&& (2 : Int32)) = (0 : Int32) then (0 : Int32) else (1 : Int32))), .val (.int (if (p3 &&& (4 : Int32)) = (0 : Int32) then (0 : Int32) else (1 : Int32))), .val (.ref (own_f7 ((((p3.toUInt32 >>> ((3 : Int32) &&& 31).toUInt32).toInt32) &&& (7 : Int32)) % (5 : Int32)) s_INTERNAL s_CLIENT s_SERVER s_PRODUCER s_CONSUMER)), .val (.ref b129), .val (.ref b138)] [(.ref b138)])) rfl (by rw [hml]; rfl) (Steps.refl _) (argsL := []) (rest := []) (lenOf pd_0_5 rfl) rfl (by show 2 * 0 + _ ≤ _; exact Nat.le_of_eq rfl) (hb hby at_212) (fun _ _ => ⟨rfl, e151, (by decide : 14 + 0 ≤ _), (by decide : 54 + 0 ≤ _)⟩)
    dsimp only [Pt.U, Pt.locs, Pt.cells, Pt.slots] at X153 l153 y153 z153 st153 hQ153
    replace y153 : k153 = 14 := y153
    replace z153 : n153 = 54 := z153
    subst y153 z153
    obtain ⟨rfl, N153q, e153⟩ := hQ153
    have N153 : Fr n0 L153 := by rw [l153]; exact Fr.app N151 N153q
    obtain ⟨cq154, kq154, q154a, q154b, q154c⟩ := isOf hZ e153 A138
    obtain ⟨_, _, ⟨T154, L154, k154, n154⟩, -, X154, ⟨Lc154, hQ154, l154, y154, z154⟩, st154⟩ := X153.virtualBack hx (y := (⟨"com/example/longpole/longpole/Span", "service", "()Ljava/lang/String;"⟩ : MethodName)) (z := (⟨"com/example/longpole/longpole/Span", "service", "()Ljava/lang/String;"⟩ : MethodName)) hown (mvT hZ (hw _ (List.mem_of_getElem? (i := 109) rfl))) (mvT hZ (hw _ (List.mem_of_getElem? (i := 110) rfl))) (notFace_of_selects (args := #[]) (mvT hZ (hw _ (List.mem_of_getElem? (i := 112) rfl)))) (mvT hZ (hw _ (List.mem_of_getElem? (i := 112) rfl))) (mvT hZ (hw _ (List.mem_of_getElem? (i := 111) rfl))) (by decide) (backOf (W := 0) (rm17 l Z a0 hw [] b138 (Value.ref b107) T138.heap n0 Z138 G138_service rfl) hZ (hw _ (List.mem_of_getElem? (i := 113) rfl)) (hw _ (List.mem_of_getElem? (i := 38) rfl)) (by decide) (by decide)) q154a q154c (g := (mkF m 222 #[.val (.int p1), .val (.int p2), .val (.int p3), .val (.long q4), .second, .val (.long q5), .second, .val (.ref b6), .val (.ref b7), .val .null, .val (.ref b93), .val (.ref b97), .val (.ref b101), .val (.ref b107), .val (.int (if (p3 &&& (1 : Int32)) = (0 : Int32) then (0 : Int32) else (1 : Int32))), .val (.int (if (p3 &&& (2 : Int32)) = (0 : Int32) then (0 : Int32) else (1 : Int32))), .val (.int (if (p3 &&& (4 : Int32)) = (0 : Int32) then (0 : Int32) else (1 : Int32))), .val (.ref (own_f7 ((((p3.toUInt32 >>> ((3 : Int32) &&& 31).toUInt32).toInt32) &&& (7 : Int32)) % (5 : Int32)) s_INTERNAL s_CLIENT s_SERVER s_PRODUCER s_CONSUMER)), .val (.ref b129), .val (.ref b138)] [(.ref b138)])) rfl (by rw [hml]; rfl) (Steps.refl _) (argsL := []) (rest := []) (lenOf pd_0_4 rfl) rfl (by show 2 * 0 + _ ≤ _; exact Nat.le_of_eq rfl) (hb hby at_222) (fun _ _ => ⟨rfl, e153, (by decide : 14 + 0 ≤ _), (by decide : 54 + 0 ≤ _)⟩)
    dsimp only [Pt.U, Pt.locs, Pt.cells, Pt.slots] at X154 l154 y154 z154 st154 hQ154
    replace y154 : k154 = 14 := y154
    replace z154 : n154 = 54 := z154
    subst y154 z154
    obtain ⟨rfl, N154q, e154⟩ := hQ154
    have N154 : Fr n0 L154 := by rw [l154]; exact Fr.app N153 N154q
    have pr155 : ∀ t, Steps p.tables e below (T154.setTop (mkF m 225 #[.val (.int p1), .val (.int p2), .val (.int p3), .val (.long q4), .second, .val (.long q5), .second, .val (.ref b6), .val (.ref b7), .val .null, .val (.ref b93), .val (.ref b97), .val (.ref b101), .val (.ref b107), .val (.int (if (p3 &&& (1 : Int32)) = (0 : Int32) then (0 : Int32) else (1 : Int32))), .val (.int (if (p3 &&& (2 : Int32)) = (0 : Int32) then (0 : Int32) else (1 : Int32))), .val (.int (if (p3 &&& (4 : Int32)) = (0 : Int32) then (0 : Int32) else (1 : Int32))), .val (.ref (own_f7 ((((p3.toUInt32 >>> ((3 : Int32) &&& 31).toUInt32).toInt32) &&& (7 : Int32)) % (5 : Int32)) s_INTERNAL s_CLIENT s_SERVER s_PRODUCER s_CONSUMER)), .val (.ref b129), .val (.ref b138)] [(.ref b107)])) t → Steps p.tables e below (s₁.setTop (entryFrame m #[(.int p1), (.int p2), (.int p3), (.long q4), (.long q5)] maxLocals)) t := by
      intro t k
      refine pr152 t ?_
      show Steps p.tables e below (T151.setTop (mkF m 205 #[.val (.int p1), .val (.int p2), .val (.int p3), .val (.long q4), .second, .val (.long q5), .second, .val (.ref b6), .val (.ref b7), .val .null, .val (.ref b93), .val (.ref b97), .val (.ref b101), .val (.ref b107), .val (.int (if (p3 &&& (1 : Int32)) = (0 : Int32) then (0 : Int32) else (1 : Int32))), .val (.int (if (p3 &&& (2 : Int32)) = (0 : Int32) then (0 : Int32) else (1 : Int32))), .val (.int (if (p3 &&& (4 : Int32)) = (0 : Int32) then (0 : Int32) else (1 : Int32))), .val (.ref (own_f7 ((((p3.toUInt32 >>> ((3 : Int32) &&& 31).toUInt32).toInt32) &&& (7 : Int32)) % (5 : Int32)) s_INTERNAL s_CLIENT s_SERVER s_PRODUCER s_CONSUMER)), .val (.ref b129), .val (.ref b138)] [(.ref (own_f7 ((((p3.toUInt32 >>> ((3 : Int32) &&& 31).toUInt32).toInt32) &&& (7 : Int32)) % (5 : Int32)) s_INTERNAL s_CLIENT s_SERVER s_PRODUCER s_CONSUMER))])) _
      refine XS.aload X151.here hx rfl (hb hby at_205) rfl rfl ?_
      show Steps p.tables e below (T151.setTop (mkF m 207 #[.val (.int p1), .val (.int p2), .val (.int p3), .val (.long q4), .second, .val (.long q5), .second, .val (.ref b6), .val (.ref b7), .val .null, .val (.ref b93), .val (.ref b97), .val (.ref b101), .val (.ref b107), .val (.int (if (p3 &&& (1 : Int32)) = (0 : Int32) then (0 : Int32) else (1 : Int32))), .val (.int (if (p3 &&& (2 : Int32)) = (0 : Int32) then (0 : Int32) else (1 : Int32))), .val (.int (if (p3 &&& (4 : Int32)) = (0 : Int32) then (0 : Int32) else (1 : Int32))), .val (.ref (own_f7 ((((p3.toUInt32 >>> ((3 : Int32) &&& 31).toUInt32).toInt32) &&& (7 : Int32)) % (5 : Int32)) s_INTERNAL s_CLIENT s_SERVER s_PRODUCER s_CONSUMER)), .val (.ref b129), .val (.ref b138)] [(.ref (own_f7 ((((p3.toUInt32 >>> ((3 : Int32) &&& 31).toUInt32).toInt32) &&& (7 : Int32)) % (5 : Int32)) s_INTERNAL s_CLIENT s_SERVER s_PRODUCER s_CONSUMER)), (.ref (own_f7 ((((p3.toUInt32 >>> ((3 : Int32) &&& 31).toUInt32).toInt32) &&& (7 : Int32)) % (5 : Int32)) s_INTERNAL s_CLIENT s_SERVER s_PRODUCER s_CONSUMER))])) _
      refine Jvm.RoadKit.acmp (g := (mkF m 207 #[.val (.int p1), .val (.int p2), .val (.int p3), .val (.long q4), .second, .val (.long q5), .second, .val (.ref b6), .val (.ref b7), .val .null, .val (.ref b93), .val (.ref b97), .val (.ref b101), .val (.ref b107), .val (.int (if (p3 &&& (1 : Int32)) = (0 : Int32) then (0 : Int32) else (1 : Int32))), .val (.int (if (p3 &&& (2 : Int32)) = (0 : Int32) then (0 : Int32) else (1 : Int32))), .val (.int (if (p3 &&& (4 : Int32)) = (0 : Int32) then (0 : Int32) else (1 : Int32))), .val (.ref (own_f7 ((((p3.toUInt32 >>> ((3 : Int32) &&& 31).toUInt32).toInt32) &&& (7 : Int32)) % (5 : Int32)) s_INTERNAL s_CLIENT s_SERVER s_PRODUCER s_CONSUMER)), .val (.ref b129), .val (.ref b138)] [(.ref (own_f7 ((((p3.toUInt32 >>> ((3 : Int32) &&& 31).toUInt32).toInt32) &&& (7 : Int32)) % (5 : Int32)) s_INTERNAL s_CLIENT s_SERVER s_PRODUCER s_CONSUMER)), (.ref (own_f7 ((((p3.toUInt32 >>> ((3 : Int32) &&& 31).toUInt32).toInt32) &&& (7 : Int32)) % (5 : Int32)) s_INTERNAL s_CLIENT s_SERVER s_PRODUCER s_CONSUMER))])) X151 hx rfl rfl rfl (pc0 := 207) (pc' := 210) (same := true) rfl (hb hby at_207) rfl (decide_eq_true rfl) (by decide) (by decide) ?_
      show Steps p.tables e below (T151.setTop (mkF m 210 #[.val (.int p1), .val (.int p2), .val (.int p3), .val (.long q4), .second, .val (.long q5), .second, .val (.ref b6), .val (.ref b7), .val .null, .val (.ref b93), .val (.ref b97), .val (.ref b101), .val (.ref b107), .val (.int (if (p3 &&& (1 : Int32)) = (0 : Int32) then (0 : Int32) else (1 : Int32))), .val (.int (if (p3 &&& (2 : Int32)) = (0 : Int32) then (0 : Int32) else (1 : Int32))), .val (.int (if (p3 &&& (4 : Int32)) = (0 : Int32) then (0 : Int32) else (1 : Int32))), .val (.ref (own_f7 ((((p3.toUInt32 >>> ((3 : Int32) &&& 31).toUInt32).toInt32) &&& (7 : Int32)) % (5 : Int32)) s_INTERNAL s_CLIENT s_SERVER s_PRODUCER s_CONSUMER)), .val (.ref b129), .val (.ref b138)] [])) _
      refine XS.aload X151.here hx rfl (hb hby at_210) rfl rfl ?_
      show Steps p.tables e below (T151.setTop (mkF m 212 #[.val (.int p1), .val (.int p2), .val (.int p3), .val (.long q4), .second, .val (.long q5), .second, .val (.ref b6), .val (.ref b7), .val .null, .val (.ref b93), .val (.ref b97), .val (.ref b101), .val (.ref b107), .val (.int (if (p3 &&& (1 : Int32)) = (0 : Int32) then (0 : Int32) else (1 : Int32))), .val (.int (if (p3 &&& (2 : Int32)) = (0 : Int32) then (0 : Int32) else (1 : Int32))), .val (.int (if (p3 &&& (4 : Int32)) = (0 : Int32) then (0 : Int32) else (1 : Int32))), .val (.ref (own_f7 ((((p3.toUInt32 >>> ((3 : Int32) &&& 31).toUInt32).toInt32) &&& (7 : Int32)) % (5 : Int32)) s_INTERNAL s_CLIENT s_SERVER s_PRODUCER s_CONSUMER)), .val (.ref b129), .val (.ref b138)] [(.ref b138)])) _
      refine st153.trans ?_
      show Steps p.tables e below (T153.setTop (mkF m 215 #[.val (.int p1), .val (.int p2), .val (.int p3), .val (.long q4), .second, .val (.long q5), .second, .val (.ref b6), .val (.ref b7), .val .null, .val (.ref b93), .val (.ref b97), .val (.ref b101), .val (.ref b107), .val (.int (if (p3 &&& (1 : Int32)) = (0 : Int32) then (0 : Int32) else (1 : Int32))), .val (.int (if (p3 &&& (2 : Int32)) = (0 : Int32) then (0 : Int32) else (1 : Int32))), .val (.int (if (p3 &&& (4 : Int32)) = (0 : Int32) then (0 : Int32) else (1 : Int32))), .val (.ref (own_f7 ((((p3.toUInt32 >>> ((3 : Int32) &&& 31).toUInt32).toInt32) &&& (7 : Int32)) % (5 : Int32)) s_INTERNAL s_CLIENT s_SERVER s_PRODUCER s_CONSUMER)), .val (.ref b129), .val (.ref b138)] [(.int (nar .boolean (nar .boolean (nar .boolean (if (p3 &&& (2 : Int32)) = (0 : Int32) then (0 : Int32) else (1 : Int32))))))])) _
      refine XS.iload X153.here hx rfl (hb hby at_215) rfl ?_
      show Steps p.tables e below (T153.setTop (mkF m 217 #[.val (.int p1), .val (.int p2), .val (.int p3), .val (.long q4), .second, .val (.long q5), .second, .val (.ref b6), .val (.ref b7), .val .null, .val (.ref b93), .val (.ref b97), .val (.ref b101), .val (.ref b107), .val (.int (if (p3 &&& (1 : Int32)) = (0 : Int32) then (0 : Int32) else (1 : Int32))), .val (.int (if (p3 &&& (2 : Int32)) = (0 : Int32) then (0 : Int32) else (1 : Int32))), .val (.int (if (p3 &&& (4 : Int32)) = (0 : Int32) then (0 : Int32) else (1 : Int32))), .val (.ref (own_f7 ((((p3.toUInt32 >>> ((3 : Int32) &&& 31).toUInt32).toInt32) &&& (7 : Int32)) % (5 : Int32)) s_INTERNAL s_CLIENT s_SERVER s_PRODUCER s_CONSUMER)), .val (.ref b129), .val (.ref b138)] [(.int (if (p3 &&& (2 : Int32)) = (0 : Int32) then (0 : Int32) else (1 : Int32))), (.int (nar .boolean (nar .boolean (nar .boolean (if (p3 &&& (2 : Int32)) = (0 : Int32) then (0 : Int32) else (1 : Int32))))))])) _
      refine XS.icmpNo X153.here hx rfl (hb hby at_217) rfl (teq (by simp only [own_narN, own_narIf] : (nar .boolean (nar .boolean (nar .boolean (if (p3 &&& (2 : Int32)) = (0 : Int32) then (0 : Int32) else (1 : Int32))))) = (if (p3 &&& (2 : Int32)) = (0 : Int32) then (0 : Int32) else (1 : Int32)))).2 ?_
      show Steps p.tables e below (T153.setTop (mkF m 220 #[.val (.int p1), .val (.int p2), .val (.int p3), .val (.long q4), .second, .val (.long q5), .second, .val (.ref b6), .val (.ref b7), .val .null, .val (.ref b93), .val (.ref b97), .val (.ref b101), .val (.ref b107), .val (.int (if (p3 &&& (1 : Int32)) = (0 : Int32) then (0 : Int32) else (1 : Int32))), .val (.int (if (p3 &&& (2 : Int32)) = (0 : Int32) then (0 : Int32) else (1 : Int32))), .val (.int (if (p3 &&& (4 : Int32)) = (0 : Int32) then (0 : Int32) else (1 : Int32))), .val (.ref (own_f7 ((((p3.toUInt32 >>> ((3 : Int32) &&& 31).toUInt32).toInt32) &&& (7 : Int32)) % (5 : Int32)) s_INTERNAL s_CLIENT s_SERVER s_PRODUCER s_CONSUMER)), .val (.ref b129), .val (.ref b138)] [])) _
      refine XS.aload X153.here hx rfl (hb hby at_220) rfl rfl ?_
      show Steps p.tables e below (T153.setTop (mkF m 222 #[.val (.int p1), .val (.int p2), .val (.int p3), .val (.long q4), .second, .val (.long q5), .second, .val (.ref b6), .val (.ref b7), .val .null, .val (.ref b93), .val (.ref b97), .val (.ref b101), .val (.ref b107), .val (.int (if (p3 &&& (1 : Int32)) = (0 : Int32) then (0 : Int32) else (1 : Int32))), .val (.int (if (p3 &&& (2 : Int32)) = (0 : Int32) then (0 : Int32) else (1 : Int32))), .val (.int (if (p3 &&& (4 : Int32)) = (0 : Int32) then (0 : Int32) else (1 : Int32))), .val (.ref (own_f7 ((((p3.toUInt32 >>> ((3 : Int32) &&& 31).toUInt32).toInt32) &&& (7 : Int32)) % (5 : Int32)) s_INTERNAL s_CLIENT s_SERVER s_PRODUCER s_CONSUMER)), .val (.ref b129), .val (.ref b138)] [(.ref b138)])) _
      refine st154.trans ?_
      exact k
    obtain ⟨cq156, kq156, q156a, q156b, q156c⟩ := isOf hZ e154 A138
    obtain ⟨_, _, ⟨T156, L156, k156, n156⟩, -, X156, ⟨Lc156, hQ156, l156, y156, z156⟩, st156⟩ := X154.virtualBack hx (y := (⟨"com/example/longpole/longpole/Span", "name", "()Ljava/lang/String;"⟩ : MethodName)) (z := (⟨"com/example/longpole/longpole/Span", "name", "()Ljava/lang/String;"⟩ : MethodName)) hown (mvT hZ (hw _ (List.mem_of_getElem? (i := 114) rfl))) (mvT hZ (hw _ (List.mem_of_getElem? (i := 115) rfl))) (notFace_of_selects (args := #[]) (mvT hZ (hw _ (List.mem_of_getElem? (i := 117) rfl)))) (mvT hZ (hw _ (List.mem_of_getElem? (i := 117) rfl))) (mvT hZ (hw _ (List.mem_of_getElem? (i := 116) rfl))) (by decide) (backOf (W := 0) (rm18 l Z a0 hw [] b138 (Value.ref b97) T138.heap n0 Z138 G138_name rfl) hZ (hw _ (List.mem_of_getElem? (i := 118) rfl)) (hw _ (List.mem_of_getElem? (i := 38) rfl)) (by decide) (by decide)) q156a q156c (g := (mkF m 232 #[.val (.int p1), .val (.int p2), .val (.int p3), .val (.long q4), .second, .val (.long q5), .second, .val (.ref b6), .val (.ref b7), .val .null, .val (.ref b93), .val (.ref b97), .val (.ref b101), .val (.ref b107), .val (.int (if (p3 &&& (1 : Int32)) = (0 : Int32) then (0 : Int32) else (1 : Int32))), .val (.int (if (p3 &&& (2 : Int32)) = (0 : Int32) then (0 : Int32) else (1 : Int32))), .val (.int (if (p3 &&& (4 : Int32)) = (0 : Int32) then (0 : Int32) else (1 : Int32))), .val (.ref (own_f7 ((((p3.toUInt32 >>> ((3 : Int32) &&& 31).toUInt32).toInt32) &&& (7 : Int32)) % (5 : Int32)) s_INTERNAL s_CLIENT s_SERVER s_PRODUCER s_CONSUMER)), .val (.ref b129), .val (.ref b138)] [(.ref b138)])) rfl (by rw [hml]; rfl) (Steps.refl _) (argsL := []) (rest := []) (lenOf pd_0_4 rfl) rfl (by show 2 * 0 + _ ≤ _; exact Nat.le_of_eq rfl) (hb hby at_232) (fun _ _ => ⟨rfl, e154, (by decide : 14 + 0 ≤ _), (by decide : 54 + 0 ≤ _)⟩)
    dsimp only [Pt.U, Pt.locs, Pt.cells, Pt.slots] at X156 l156 y156 z156 st156 hQ156
    replace y156 : k156 = 14 := y156
    replace z156 : n156 = 54 := z156
    subst y156 z156
    obtain ⟨rfl, N156q, e156⟩ := hQ156
    have N156 : Fr n0 L156 := by rw [l156]; exact Fr.app N154 N156q
    obtain ⟨cq157, kq157, q157a, q157b, q157c⟩ := isOf hZ e156 A138
    obtain ⟨_, _, ⟨T157, L157, k157, n157⟩, -, X157, ⟨Lc157, hQ157, l157, y157, z157⟩, st157⟩ := X156.virtualBack hx (y := (⟨"com/example/longpole/longpole/Span", "remoteService", "()Ljava/lang/String;"⟩ : MethodName)) (z := (⟨"com/example/longpole/longpole/Span", "remoteService", "()Ljava/lang/String;"⟩ : MethodName)) hown (mvT hZ (hw _ (List.mem_of_getElem? (i := 119) rfl))) (mvT hZ (hw _ (List.mem_of_getElem? (i := 120) rfl))) (notFace_of_selects (args := #[]) (mvT hZ (hw _ (List.mem_of_getElem? (i := 122) rfl)))) (mvT hZ (hw _ (List.mem_of_getElem? (i := 122) rfl))) (mvT hZ (hw _ (List.mem_of_getElem? (i := 121) rfl))) (by decide) (backOf (W := 0) (rm19 l Z a0 hw [] b138 (Value.ref b101) T138.heap n0 Z138 G138_remoteService rfl) hZ (hw _ (List.mem_of_getElem? (i := 123) rfl)) (hw _ (List.mem_of_getElem? (i := 38) rfl)) (by decide) (by decide)) q157a q157c (g := (mkF m 242 #[.val (.int p1), .val (.int p2), .val (.int p3), .val (.long q4), .second, .val (.long q5), .second, .val (.ref b6), .val (.ref b7), .val .null, .val (.ref b93), .val (.ref b97), .val (.ref b101), .val (.ref b107), .val (.int (if (p3 &&& (1 : Int32)) = (0 : Int32) then (0 : Int32) else (1 : Int32))), .val (.int (if (p3 &&& (2 : Int32)) = (0 : Int32) then (0 : Int32) else (1 : Int32))), .val (.int (if (p3 &&& (4 : Int32)) = (0 : Int32) then (0 : Int32) else (1 : Int32))), .val (.ref (own_f7 ((((p3.toUInt32 >>> ((3 : Int32) &&& 31).toUInt32).toInt32) &&& (7 : Int32)) % (5 : Int32)) s_INTERNAL s_CLIENT s_SERVER s_PRODUCER s_CONSUMER)), .val (.ref b129), .val (.ref b138)] [(.ref b138)])) rfl (by rw [hml]; rfl) (Steps.refl _) (argsL := []) (rest := []) (lenOf pd_0_4 rfl) rfl (by show 2 * 0 + _ ≤ _; exact Nat.le_of_eq rfl) (hb hby at_242) (fun _ _ => ⟨rfl, e156, (by decide : 14 + 0 ≤ _), (by decide : 54 + 0 ≤ _)⟩)
    dsimp only [Pt.U, Pt.locs, Pt.cells, Pt.slots] at X157 l157 y157 z157 st157 hQ157
    replace y157 : k157 = 14 := y157
    replace z157 : n157 = 54 := z157
    subst y157 z157
    obtain ⟨rfl, N157q, e157⟩ := hQ157
    have N157 : Fr n0 L157 := by rw [l157]; exact Fr.app N156 N157q
    have pr158 : ∀ t, Steps p.tables e below (T157.setTop (mkF m 245 #[.val (.int p1), .val (.int p2), .val (.int p3), .val (.long q4), .second, .val (.long q5), .second, .val (.ref b6), .val (.ref b7), .val .null, .val (.ref b93), .val (.ref b97), .val (.ref b101), .val (.ref b107), .val (.int (if (p3 &&& (1 : Int32)) = (0 : Int32) then (0 : Int32) else (1 : Int32))), .val (.int (if (p3 &&& (2 : Int32)) = (0 : Int32) then (0 : Int32) else (1 : Int32))), .val (.int (if (p3 &&& (4 : Int32)) = (0 : Int32) then (0 : Int32) else (1 : Int32))), .val (.ref (own_f7 ((((p3.toUInt32 >>> ((3 : Int32) &&& 31).toUInt32).toInt32) &&& (7 : Int32)) % (5 : Int32)) s_INTERNAL s_CLIENT s_SERVER s_PRODUCER s_CONSUMER)), .val (.ref b129), .val (.ref b138)] [(.ref b101)])) t → Steps p.tables e below (s₁.setTop (entryFrame m #[(.int p1), (.int p2), (.int p3), (.long q4), (.long q5)] maxLocals)) t := by
      intro t k
      refine pr155 t ?_
      show Steps p.tables e below (T154.setTop (mkF m 225 #[.val (.int p1), .val (.int p2), .val (.int p3), .val (.long q4), .second, .val (.long q5), .second, .val (.ref b6), .val (.ref b7), .val .null, .val (.ref b93), .val (.ref b97), .val (.ref b101), .val (.ref b107), .val (.int (if (p3 &&& (1 : Int32)) = (0 : Int32) then (0 : Int32) else (1 : Int32))), .val (.int (if (p3 &&& (2 : Int32)) = (0 : Int32) then (0 : Int32) else (1 : Int32))), .val (.int (if (p3 &&& (4 : Int32)) = (0 : Int32) then (0 : Int32) else (1 : Int32))), .val (.ref (own_f7 ((((p3.toUInt32 >>> ((3 : Int32) &&& 31).toUInt32).toInt32) &&& (7 : Int32)) % (5 : Int32)) s_INTERNAL s_CLIENT s_SERVER s_PRODUCER s_CONSUMER)), .val (.ref b129), .val (.ref b138)] [(.ref b107)])) _
      refine XS.aload X154.here hx rfl (hb hby at_225) rfl rfl ?_
      show Steps p.tables e below (T154.setTop (mkF m 227 #[.val (.int p1), .val (.int p2), .val (.int p3), .val (.long q4), .second, .val (.long q5), .second, .val (.ref b6), .val (.ref b7), .val .null, .val (.ref b93), .val (.ref b97), .val (.ref b101), .val (.ref b107), .val (.int (if (p3 &&& (1 : Int32)) = (0 : Int32) then (0 : Int32) else (1 : Int32))), .val (.int (if (p3 &&& (2 : Int32)) = (0 : Int32) then (0 : Int32) else (1 : Int32))), .val (.int (if (p3 &&& (4 : Int32)) = (0 : Int32) then (0 : Int32) else (1 : Int32))), .val (.ref (own_f7 ((((p3.toUInt32 >>> ((3 : Int32) &&& 31).toUInt32).toInt32) &&& (7 : Int32)) % (5 : Int32)) s_INTERNAL s_CLIENT s_SERVER s_PRODUCER s_CONSUMER)), .val (.ref b129), .val (.ref b138)] [(.ref b107), (.ref b107)])) _
      refine Jvm.RoadKit.acmp (g := (mkF m 227 #[.val (.int p1), .val (.int p2), .val (.int p3), .val (.long q4), .second, .val (.long q5), .second, .val (.ref b6), .val (.ref b7), .val .null, .val (.ref b93), .val (.ref b97), .val (.ref b101), .val (.ref b107), .val (.int (if (p3 &&& (1 : Int32)) = (0 : Int32) then (0 : Int32) else (1 : Int32))), .val (.int (if (p3 &&& (2 : Int32)) = (0 : Int32) then (0 : Int32) else (1 : Int32))), .val (.int (if (p3 &&& (4 : Int32)) = (0 : Int32) then (0 : Int32) else (1 : Int32))), .val (.ref (own_f7 ((((p3.toUInt32 >>> ((3 : Int32) &&& 31).toUInt32).toInt32) &&& (7 : Int32)) % (5 : Int32)) s_INTERNAL s_CLIENT s_SERVER s_PRODUCER s_CONSUMER)), .val (.ref b129), .val (.ref b138)] [(.ref b107), (.ref b107)])) X154 hx rfl rfl rfl (pc0 := 227) (pc' := 230) (same := true) rfl (hb hby at_227) rfl (decide_eq_true rfl) (by decide) (by decide) ?_
      show Steps p.tables e below (T154.setTop (mkF m 230 #[.val (.int p1), .val (.int p2), .val (.int p3), .val (.long q4), .second, .val (.long q5), .second, .val (.ref b6), .val (.ref b7), .val .null, .val (.ref b93), .val (.ref b97), .val (.ref b101), .val (.ref b107), .val (.int (if (p3 &&& (1 : Int32)) = (0 : Int32) then (0 : Int32) else (1 : Int32))), .val (.int (if (p3 &&& (2 : Int32)) = (0 : Int32) then (0 : Int32) else (1 : Int32))), .val (.int (if (p3 &&& (4 : Int32)) = (0 : Int32) then (0 : Int32) else (1 : Int32))), .val (.ref (own_f7 ((((p3.toUInt32 >>> ((3 : Int32) &&& 31).toUInt32).toInt32) &&& (7 : Int32)) % (5 : Int32)) s_INTERNAL s_CLIENT s_SERVER s_PRODUCER s_CONSUMER)), .val (.ref b129), .val (.ref b138)] [])) _
      refine XS.aload X154.here hx rfl (hb hby at_230) rfl rfl ?_
      show Steps p.tables e below (T154.setTop (mkF m 232 #[.val (.int p1), .val (.int p2), .val (.int p3), .val (.long q4), .second, .val (.long q5), .second, .val (.ref b6), .val (.ref b7), .val .null, .val (.ref b93), .val (.ref b97), .val (.ref b101), .val (.ref b107), .val (.int (if (p3 &&& (1 : Int32)) = (0 : Int32) then (0 : Int32) else (1 : Int32))), .val (.int (if (p3 &&& (2 : Int32)) = (0 : Int32) then (0 : Int32) else (1 : Int32))), .val (.int (if (p3 &&& (4 : Int32)) = (0 : Int32) then (0 : Int32) else (1 : Int32))), .val (.ref (own_f7 ((((p3.toUInt32 >>> ((3 : Int32) &&& 31).toUInt32).toInt32) &&& (7 : Int32)) % (5 : Int32)) s_INTERNAL s_CLIENT s_SERVER s_PRODUCER s_CONSUMER)), .val (.ref b129), .val (.ref b138)] [(.ref b138)])) _
      refine st156.trans ?_
      show Steps p.tables e below (T156.setTop (mkF m 235 #[.val (.int p1), .val (.int p2), .val (.int p3), .val (.long q4), .second, .val (.long q5), .second, .val (.ref b6), .val (.ref b7), .val .null, .val (.ref b93), .val (.ref b97), .val (.ref b101), .val (.ref b107), .val (.int (if (p3 &&& (1 : Int32)) = (0 : Int32) then (0 : Int32) else (1 : Int32))), .val (.int (if (p3 &&& (2 : Int32)) = (0 : Int32) then (0 : Int32) else (1 : Int32))), .val (.int (if (p3 &&& (4 : Int32)) = (0 : Int32) then (0 : Int32) else (1 : Int32))), .val (.ref (own_f7 ((((p3.toUInt32 >>> ((3 : Int32) &&& 31).toUInt32).toInt32) &&& (7 : Int32)) % (5 : Int32)) s_INTERNAL s_CLIENT s_SERVER s_PRODUCER s_CONSUMER)), .val (.ref b129), .val (.ref b138)] [(.ref b97)])) _
      refine XS.aload X156.here hx rfl (hb hby at_235) rfl rfl ?_
      show Steps p.tables e below (T156.setTop (mkF m 237 #[.val (.int p1), .val (.int p2), .val (.int p3), .val (.long q4), .second, .val (.long q5), .second, .val (.ref b6), .val (.ref b7), .val .null, .val (.ref b93), .val (.ref b97), .val (.ref b101), .val (.ref b107), .val (.int (if (p3 &&& (1 : Int32)) = (0 : Int32) then (0 : Int32) else (1 : Int32))), .val (.int (if (p3 &&& (2 : Int32)) = (0 : Int32) then (0 : Int32) else (1 : Int32))), .val (.int (if (p3 &&& (4 : Int32)) = (0 : Int32) then (0 : Int32) else (1 : Int32))), .val (.ref (own_f7 ((((p3.toUInt32 >>> ((3 : Int32) &&& 31).toUInt32).toInt32) &&& (7 : Int32)) % (5 : Int32)) s_INTERNAL s_CLIENT s_SERVER s_PRODUCER s_CONSUMER)), .val (.ref b129), .val (.ref b138)] [(.ref b97), (.ref b97)])) _
      refine Jvm.RoadKit.acmp (g := (mkF m 237 #[.val (.int p1), .val (.int p2), .val (.int p3), .val (.long q4), .second, .val (.long q5), .second, .val (.ref b6), .val (.ref b7), .val .null, .val (.ref b93), .val (.ref b97), .val (.ref b101), .val (.ref b107), .val (.int (if (p3 &&& (1 : Int32)) = (0 : Int32) then (0 : Int32) else (1 : Int32))), .val (.int (if (p3 &&& (2 : Int32)) = (0 : Int32) then (0 : Int32) else (1 : Int32))), .val (.int (if (p3 &&& (4 : Int32)) = (0 : Int32) then (0 : Int32) else (1 : Int32))), .val (.ref (own_f7 ((((p3.toUInt32 >>> ((3 : Int32) &&& 31).toUInt32).toInt32) &&& (7 : Int32)) % (5 : Int32)) s_INTERNAL s_CLIENT s_SERVER s_PRODUCER s_CONSUMER)), .val (.ref b129), .val (.ref b138)] [(.ref b97), (.ref b97)])) X156 hx rfl rfl rfl (pc0 := 237) (pc' := 240) (same := true) rfl (hb hby at_237) rfl (decide_eq_true rfl) (by decide) (by decide) ?_
      show Steps p.tables e below (T156.setTop (mkF m 240 #[.val (.int p1), .val (.int p2), .val (.int p3), .val (.long q4), .second, .val (.long q5), .second, .val (.ref b6), .val (.ref b7), .val .null, .val (.ref b93), .val (.ref b97), .val (.ref b101), .val (.ref b107), .val (.int (if (p3 &&& (1 : Int32)) = (0 : Int32) then (0 : Int32) else (1 : Int32))), .val (.int (if (p3 &&& (2 : Int32)) = (0 : Int32) then (0 : Int32) else (1 : Int32))), .val (.int (if (p3 &&& (4 : Int32)) = (0 : Int32) then (0 : Int32) else (1 : Int32))), .val (.ref (own_f7 ((((p3.toUInt32 >>> ((3 : Int32) &&& 31).toUInt32).toInt32) &&& (7 : Int32)) % (5 : Int32)) s_INTERNAL s_CLIENT s_SERVER s_PRODUCER s_CONSUMER)), .val (.ref b129), .val (.ref b138)] [])) _
      refine XS.aload X156.here hx rfl (hb hby at_240) rfl rfl ?_
      show Steps p.tables e below (T156.setTop (mkF m 242 #[.val (.int p1), .val (.int p2), .val (.int p3), .val (.long q4), .second, .val (.long q5), .second, .val (.ref b6), .val (.ref b7), .val .null, .val (.ref b93), .val (.ref b97), .val (.ref b101), .val (.ref b107), .val (.int (if (p3 &&& (1 : Int32)) = (0 : Int32) then (0 : Int32) else (1 : Int32))), .val (.int (if (p3 &&& (2 : Int32)) = (0 : Int32) then (0 : Int32) else (1 : Int32))), .val (.int (if (p3 &&& (4 : Int32)) = (0 : Int32) then (0 : Int32) else (1 : Int32))), .val (.ref (own_f7 ((((p3.toUInt32 >>> ((3 : Int32) &&& 31).toUInt32).toInt32) &&& (7 : Int32)) % (5 : Int32)) s_INTERNAL s_CLIENT s_SERVER s_PRODUCER s_CONSUMER)), .val (.ref b129), .val (.ref b138)] [(.ref b138)])) _
      refine st157.trans ?_
      exact k
    obtain ⟨cq159, kq159, q159a, q159b, q159c⟩ := isOf hZ e157 A138
    obtain ⟨_, _, ⟨T159, L159, k159, n159⟩, -, X159, ⟨Lc159, hQ159, l159, y159, z159⟩, st159⟩ := X157.virtualBack hx (y := (⟨"com/example/longpole/longpole/Span", "hasTimestamp", "()Z"⟩ : MethodName)) (z := (⟨"com/example/longpole/longpole/Span", "hasTimestamp", "()Z"⟩ : MethodName)) hown (mvT hZ (hw _ (List.mem_of_getElem? (i := 124) rfl))) (mvT hZ (hw _ (List.mem_of_getElem? (i := 125) rfl))) (notFace_of_selects (args := #[]) (mvT hZ (hw _ (List.mem_of_getElem? (i := 127) rfl)))) (mvT hZ (hw _ (List.mem_of_getElem? (i := 127) rfl))) (mvT hZ (hw _ (List.mem_of_getElem? (i := 126) rfl))) (by decide) (backOf (W := 0) (rm20 l Z a0 hw [] b138 (nar .boolean (nar .boolean (if (p3 &&& (4 : Int32)) = (0 : Int32) then (0 : Int32) else (1 : Int32)))) T138.heap n0 Z138 G138_hasTimestamp) hZ (hw _ (List.mem_of_getElem? (i := 128) rfl)) (hw _ (List.mem_of_getElem? (i := 38) rfl)) (by decide) (by decide)) q159a q159c (g := (mkF m 252 #[.val (.int p1), .val (.int p2), .val (.int p3), .val (.long q4), .second, .val (.long q5), .second, .val (.ref b6), .val (.ref b7), .val .null, .val (.ref b93), .val (.ref b97), .val (.ref b101), .val (.ref b107), .val (.int (if (p3 &&& (1 : Int32)) = (0 : Int32) then (0 : Int32) else (1 : Int32))), .val (.int (if (p3 &&& (2 : Int32)) = (0 : Int32) then (0 : Int32) else (1 : Int32))), .val (.int (if (p3 &&& (4 : Int32)) = (0 : Int32) then (0 : Int32) else (1 : Int32))), .val (.ref (own_f7 ((((p3.toUInt32 >>> ((3 : Int32) &&& 31).toUInt32).toInt32) &&& (7 : Int32)) % (5 : Int32)) s_INTERNAL s_CLIENT s_SERVER s_PRODUCER s_CONSUMER)), .val (.ref b129), .val (.ref b138)] [(.ref b138)])) rfl (by rw [hml]; rfl) (Steps.refl _) (argsL := []) (rest := []) (lenOf pd_0_5 rfl) rfl (by show 2 * 0 + _ ≤ _; exact Nat.le_of_eq rfl) (hb hby at_252) (fun _ _ => ⟨rfl, e157, (by decide : 14 + 0 ≤ _), (by decide : 54 + 0 ≤ _)⟩)
    dsimp only [Pt.U, Pt.locs, Pt.cells, Pt.slots] at X159 l159 y159 z159 st159 hQ159
    replace y159 : k159 = 14 := y159
    replace z159 : n159 = 54 := z159
    subst y159 z159
    obtain ⟨rfl, N159q, e159⟩ := hQ159
    have N159 : Fr n0 L159 := by rw [l159]; exact Fr.app N157 N159q
    obtain ⟨cq160, kq160, q160a, q160b, q160c⟩ := isOf hZ e159 A138
    obtain ⟨_, _, ⟨T160, L160, k160, n160⟩, -, X160, ⟨Lc160, hQ160, l160, y160, z160⟩, st160⟩ := X159.virtualBack hx (y := (⟨"com/example/longpole/longpole/Span", "startMicros", "()J"⟩ : MethodName)) (z := (⟨"com/example/longpole/longpole/Span", "startMicros", "()J"⟩ : MethodName)) hown (mvT hZ (hw _ (List.mem_of_getElem? (i := 129) rfl))) (mvT hZ (hw _ (List.mem_of_getElem? (i := 130) rfl))) (notFace_of_selects (args := #[]) (mvT hZ (hw _ (List.mem_of_getElem? (i := 132) rfl)))) (mvT hZ (hw _ (List.mem_of_getElem? (i := 132) rfl))) (mvT hZ (hw _ (List.mem_of_getElem? (i := 131) rfl))) (by decide) (backOf (W := 0) (rm21 l Z a0 hw [] b138 q4 T138.heap n0 Z138 G138_startMicros) hZ (hw _ (List.mem_of_getElem? (i := 133) rfl)) (hw _ (List.mem_of_getElem? (i := 38) rfl)) (by decide) (by decide)) q160a q160c (g := (mkF m 262 #[.val (.int p1), .val (.int p2), .val (.int p3), .val (.long q4), .second, .val (.long q5), .second, .val (.ref b6), .val (.ref b7), .val .null, .val (.ref b93), .val (.ref b97), .val (.ref b101), .val (.ref b107), .val (.int (if (p3 &&& (1 : Int32)) = (0 : Int32) then (0 : Int32) else (1 : Int32))), .val (.int (if (p3 &&& (2 : Int32)) = (0 : Int32) then (0 : Int32) else (1 : Int32))), .val (.int (if (p3 &&& (4 : Int32)) = (0 : Int32) then (0 : Int32) else (1 : Int32))), .val (.ref (own_f7 ((((p3.toUInt32 >>> ((3 : Int32) &&& 31).toUInt32).toInt32) &&& (7 : Int32)) % (5 : Int32)) s_INTERNAL s_CLIENT s_SERVER s_PRODUCER s_CONSUMER)), .val (.ref b129), .val (.ref b138)] [(.ref b138)])) rfl (by rw [hml]; rfl) (Steps.refl _) (argsL := []) (rest := []) (lenOf pd_0_7 rfl) rfl (by show 2 * 0 + _ ≤ _; exact Nat.le_of_eq rfl) (hb hby at_262) (fun _ _ => ⟨rfl, e159, (by decide : 14 + 0 ≤ _), (by decide : 54 + 0 ≤ _)⟩)
    dsimp only [Pt.U, Pt.locs, Pt.cells, Pt.slots] at X160 l160 y160 z160 st160 hQ160
    replace y160 : k160 = 14 := y160
    replace z160 : n160 = 54 := z160
    subst y160 z160
    obtain ⟨rfl, N160q, e160⟩ := hQ160
    have N160 : Fr n0 L160 := by rw [l160]; exact Fr.app N159 N160q
    have pr161 : ∀ t, Steps p.tables e below (T160.setTop (mkF m 265 #[.val (.int p1), .val (.int p2), .val (.int p3), .val (.long q4), .second, .val (.long q5), .second, .val (.ref b6), .val (.ref b7), .val .null, .val (.ref b93), .val (.ref b97), .val (.ref b101), .val (.ref b107), .val (.int (if (p3 &&& (1 : Int32)) = (0 : Int32) then (0 : Int32) else (1 : Int32))), .val (.int (if (p3 &&& (2 : Int32)) = (0 : Int32) then (0 : Int32) else (1 : Int32))), .val (.int (if (p3 &&& (4 : Int32)) = (0 : Int32) then (0 : Int32) else (1 : Int32))), .val (.ref (own_f7 ((((p3.toUInt32 >>> ((3 : Int32) &&& 31).toUInt32).toInt32) &&& (7 : Int32)) % (5 : Int32)) s_INTERNAL s_CLIENT s_SERVER s_PRODUCER s_CONSUMER)), .val (.ref b129), .val (.ref b138)] [(.long q4)])) t → Steps p.tables e below (s₁.setTop (entryFrame m #[(.int p1), (.int p2), (.int p3), (.long q4), (.long q5)] maxLocals)) t := by
      intro t k
      refine pr158 t ?_
      show Steps p.tables e below (T157.setTop (mkF m 245 #[.val (.int p1), .val (.int p2), .val (.int p3), .val (.long q4), .second, .val (.long q5), .second, .val (.ref b6), .val (.ref b7), .val .null, .val (.ref b93), .val (.ref b97), .val (.ref b101), .val (.ref b107), .val (.int (if (p3 &&& (1 : Int32)) = (0 : Int32) then (0 : Int32) else (1 : Int32))), .val (.int (if (p3 &&& (2 : Int32)) = (0 : Int32) then (0 : Int32) else (1 : Int32))), .val (.int (if (p3 &&& (4 : Int32)) = (0 : Int32) then (0 : Int32) else (1 : Int32))), .val (.ref (own_f7 ((((p3.toUInt32 >>> ((3 : Int32) &&& 31).toUInt32).toInt32) &&& (7 : Int32)) % (5 : Int32)) s_INTERNAL s_CLIENT s_SERVER s_PRODUCER s_CONSUMER)), .val (.ref b129), .val (.ref b138)] [(.ref b101)])) _
      refine XS.aload X157.here hx rfl (hb hby at_245) rfl rfl ?_
      show Steps p.tables e below (T157.setTop (mkF m 247 #[.val (.int p1), .val (.int p2), .val (.int p3), .val (.long q4), .second, .val (.long q5), .second, .val (.ref b6), .val (.ref b7), .val .null, .val (.ref b93), .val (.ref b97), .val (.ref b101), .val (.ref b107), .val (.int (if (p3 &&& (1 : Int32)) = (0 : Int32) then (0 : Int32) else (1 : Int32))), .val (.int (if (p3 &&& (2 : Int32)) = (0 : Int32) then (0 : Int32) else (1 : Int32))), .val (.int (if (p3 &&& (4 : Int32)) = (0 : Int32) then (0 : Int32) else (1 : Int32))), .val (.ref (own_f7 ((((p3.toUInt32 >>> ((3 : Int32) &&& 31).toUInt32).toInt32) &&& (7 : Int32)) % (5 : Int32)) s_INTERNAL s_CLIENT s_SERVER s_PRODUCER s_CONSUMER)), .val (.ref b129), .val (.ref b138)] [(.ref b101), (.ref b101)])) _
      refine Jvm.RoadKit.acmp (g := (mkF m 247 #[.val (.int p1), .val (.int p2), .val (.int p3), .val (.long q4), .second, .val (.long q5), .second, .val (.ref b6), .val (.ref b7), .val .null, .val (.ref b93), .val (.ref b97), .val (.ref b101), .val (.ref b107), .val (.int (if (p3 &&& (1 : Int32)) = (0 : Int32) then (0 : Int32) else (1 : Int32))), .val (.int (if (p3 &&& (2 : Int32)) = (0 : Int32) then (0 : Int32) else (1 : Int32))), .val (.int (if (p3 &&& (4 : Int32)) = (0 : Int32) then (0 : Int32) else (1 : Int32))), .val (.ref (own_f7 ((((p3.toUInt32 >>> ((3 : Int32) &&& 31).toUInt32).toInt32) &&& (7 : Int32)) % (5 : Int32)) s_INTERNAL s_CLIENT s_SERVER s_PRODUCER s_CONSUMER)), .val (.ref b129), .val (.ref b138)] [(.ref b101), (.ref b101)])) X157 hx rfl rfl rfl (pc0 := 247) (pc' := 250) (same := true) rfl (hb hby at_247) rfl (decide_eq_true rfl) (by decide) (by decide) ?_
      show Steps p.tables e below (T157.setTop (mkF m 250 #[.val (.int p1), .val (.int p2), .val (.int p3), .val (.long q4), .second, .val (.long q5), .second, .val (.ref b6), .val (.ref b7), .val .null, .val (.ref b93), .val (.ref b97), .val (.ref b101), .val (.ref b107), .val (.int (if (p3 &&& (1 : Int32)) = (0 : Int32) then (0 : Int32) else (1 : Int32))), .val (.int (if (p3 &&& (2 : Int32)) = (0 : Int32) then (0 : Int32) else (1 : Int32))), .val (.int (if (p3 &&& (4 : Int32)) = (0 : Int32) then (0 : Int32) else (1 : Int32))), .val (.ref (own_f7 ((((p3.toUInt32 >>> ((3 : Int32) &&& 31).toUInt32).toInt32) &&& (7 : Int32)) % (5 : Int32)) s_INTERNAL s_CLIENT s_SERVER s_PRODUCER s_CONSUMER)), .val (.ref b129), .val (.ref b138)] [])) _
      refine XS.aload X157.here hx rfl (hb hby at_250) rfl rfl ?_
      show Steps p.tables e below (T157.setTop (mkF m 252 #[.val (.int p1), .val (.int p2), .val (.int p3), .val (.long q4), .second, .val (.long q5), .second, .val (.ref b6), .val (.ref b7), .val .null, .val (.ref b93), .val (.ref b97), .val (.ref b101), .val (.ref b107), .val (.int (if (p3 &&& (1 : Int32)) = (0 : Int32) then (0 : Int32) else (1 : Int32))), .val (.int (if (p3 &&& (2 : Int32)) = (0 : Int32) then (0 : Int32) else (1 : Int32))), .val (.int (if (p3 &&& (4 : Int32)) = (0 : Int32) then (0 : Int32) else (1 : Int32))), .val (.ref (own_f7 ((((p3.toUInt32 >>> ((3 : Int32) &&& 31).toUInt32).toInt32) &&& (7 : Int32)) % (5 : Int32)) s_INTERNAL s_CLIENT s_SERVER s_PRODUCER s_CONSUMER)), .val (.ref b129), .val (.ref b138)] [(.ref b138)])) _
      refine st159.trans ?_
      show Steps p.tables e below (T159.setTop (mkF m 255 #[.val (.int p1), .val (.int p2), .val (.int p3), .val (.long q4), .second, .val (.long q5), .second, .val (.ref b6), .val (.ref b7), .val .null, .val (.ref b93), .val (.ref b97), .val (.ref b101), .val (.ref b107), .val (.int (if (p3 &&& (1 : Int32)) = (0 : Int32) then (0 : Int32) else (1 : Int32))), .val (.int (if (p3 &&& (2 : Int32)) = (0 : Int32) then (0 : Int32) else (1 : Int32))), .val (.int (if (p3 &&& (4 : Int32)) = (0 : Int32) then (0 : Int32) else (1 : Int32))), .val (.ref (own_f7 ((((p3.toUInt32 >>> ((3 : Int32) &&& 31).toUInt32).toInt32) &&& (7 : Int32)) % (5 : Int32)) s_INTERNAL s_CLIENT s_SERVER s_PRODUCER s_CONSUMER)), .val (.ref b129), .val (.ref b138)] [(.int (nar .boolean (nar .boolean (nar .boolean (if (p3 &&& (4 : Int32)) = (0 : Int32) then (0 : Int32) else (1 : Int32))))))])) _
      refine XS.iload X159.here hx rfl (hb hby at_255) rfl ?_
      show Steps p.tables e below (T159.setTop (mkF m 257 #[.val (.int p1), .val (.int p2), .val (.int p3), .val (.long q4), .second, .val (.long q5), .second, .val (.ref b6), .val (.ref b7), .val .null, .val (.ref b93), .val (.ref b97), .val (.ref b101), .val (.ref b107), .val (.int (if (p3 &&& (1 : Int32)) = (0 : Int32) then (0 : Int32) else (1 : Int32))), .val (.int (if (p3 &&& (2 : Int32)) = (0 : Int32) then (0 : Int32) else (1 : Int32))), .val (.int (if (p3 &&& (4 : Int32)) = (0 : Int32) then (0 : Int32) else (1 : Int32))), .val (.ref (own_f7 ((((p3.toUInt32 >>> ((3 : Int32) &&& 31).toUInt32).toInt32) &&& (7 : Int32)) % (5 : Int32)) s_INTERNAL s_CLIENT s_SERVER s_PRODUCER s_CONSUMER)), .val (.ref b129), .val (.ref b138)] [(.int (if (p3 &&& (4 : Int32)) = (0 : Int32) then (0 : Int32) else (1 : Int32))), (.int (nar .boolean (nar .boolean (nar .boolean (if (p3 &&& (4 : Int32)) = (0 : Int32) then (0 : Int32) else (1 : Int32))))))])) _
      refine XS.icmpNo X159.here hx rfl (hb hby at_257) rfl (teq (by simp only [own_narN, own_narIf] : (nar .boolean (nar .boolean (nar .boolean (if (p3 &&& (4 : Int32)) = (0 : Int32) then (0 : Int32) else (1 : Int32))))) = (if (p3 &&& (4 : Int32)) = (0 : Int32) then (0 : Int32) else (1 : Int32)))).2 ?_
      show Steps p.tables e below (T159.setTop (mkF m 260 #[.val (.int p1), .val (.int p2), .val (.int p3), .val (.long q4), .second, .val (.long q5), .second, .val (.ref b6), .val (.ref b7), .val .null, .val (.ref b93), .val (.ref b97), .val (.ref b101), .val (.ref b107), .val (.int (if (p3 &&& (1 : Int32)) = (0 : Int32) then (0 : Int32) else (1 : Int32))), .val (.int (if (p3 &&& (2 : Int32)) = (0 : Int32) then (0 : Int32) else (1 : Int32))), .val (.int (if (p3 &&& (4 : Int32)) = (0 : Int32) then (0 : Int32) else (1 : Int32))), .val (.ref (own_f7 ((((p3.toUInt32 >>> ((3 : Int32) &&& 31).toUInt32).toInt32) &&& (7 : Int32)) % (5 : Int32)) s_INTERNAL s_CLIENT s_SERVER s_PRODUCER s_CONSUMER)), .val (.ref b129), .val (.ref b138)] [])) _
      refine XS.aload X159.here hx rfl (hb hby at_260) rfl rfl ?_
      show Steps p.tables e below (T159.setTop (mkF m 262 #[.val (.int p1), .val (.int p2), .val (.int p3), .val (.long q4), .second, .val (.long q5), .second, .val (.ref b6), .val (.ref b7), .val .null, .val (.ref b93), .val (.ref b97), .val (.ref b101), .val (.ref b107), .val (.int (if (p3 &&& (1 : Int32)) = (0 : Int32) then (0 : Int32) else (1 : Int32))), .val (.int (if (p3 &&& (2 : Int32)) = (0 : Int32) then (0 : Int32) else (1 : Int32))), .val (.int (if (p3 &&& (4 : Int32)) = (0 : Int32) then (0 : Int32) else (1 : Int32))), .val (.ref (own_f7 ((((p3.toUInt32 >>> ((3 : Int32) &&& 31).toUInt32).toInt32) &&& (7 : Int32)) % (5 : Int32)) s_INTERNAL s_CLIENT s_SERVER s_PRODUCER s_CONSUMER)), .val (.ref b129), .val (.ref b138)] [(.ref b138)])) _
      refine st160.trans ?_
      exact k
    obtain ⟨cq162, kq162, q162a, q162b, q162c⟩ := isOf hZ e160 A138
    obtain ⟨_, _, ⟨T162, L162, k162, n162⟩, -, X162, ⟨Lc162, hQ162, l162, y162, z162⟩, st162⟩ := X160.virtualBack hx (y := (⟨"com/example/longpole/longpole/Span", "durationMicros", "()J"⟩ : MethodName)) (z := (⟨"com/example/longpole/longpole/Span", "durationMicros", "()J"⟩ : MethodName)) hown (mvT hZ (hw _ (List.mem_of_getElem? (i := 134) rfl))) (mvT hZ (hw _ (List.mem_of_getElem? (i := 135) rfl))) (notFace_of_selects (args := #[]) (mvT hZ (hw _ (List.mem_of_getElem? (i := 137) rfl)))) (mvT hZ (hw _ (List.mem_of_getElem? (i := 137) rfl))) (mvT hZ (hw _ (List.mem_of_getElem? (i := 136) rfl))) (by decide) (backOf (W := 0) (rm22 l Z a0 hw [] b138 q5 T138.heap n0 Z138 G138_durationMicros) hZ (hw _ (List.mem_of_getElem? (i := 138) rfl)) (hw _ (List.mem_of_getElem? (i := 38) rfl)) (by decide) (by decide)) q162a q162c (g := (mkF m 272 #[.val (.int p1), .val (.int p2), .val (.int p3), .val (.long q4), .second, .val (.long q5), .second, .val (.ref b6), .val (.ref b7), .val .null, .val (.ref b93), .val (.ref b97), .val (.ref b101), .val (.ref b107), .val (.int (if (p3 &&& (1 : Int32)) = (0 : Int32) then (0 : Int32) else (1 : Int32))), .val (.int (if (p3 &&& (2 : Int32)) = (0 : Int32) then (0 : Int32) else (1 : Int32))), .val (.int (if (p3 &&& (4 : Int32)) = (0 : Int32) then (0 : Int32) else (1 : Int32))), .val (.ref (own_f7 ((((p3.toUInt32 >>> ((3 : Int32) &&& 31).toUInt32).toInt32) &&& (7 : Int32)) % (5 : Int32)) s_INTERNAL s_CLIENT s_SERVER s_PRODUCER s_CONSUMER)), .val (.ref b129), .val (.ref b138)] [(.ref b138)])) rfl (by rw [hml]; rfl) (Steps.refl _) (argsL := []) (rest := []) (lenOf pd_0_7 rfl) rfl (by show 2 * 0 + _ ≤ _; exact Nat.le_of_eq rfl) (hb hby at_272) (fun _ _ => ⟨rfl, e160, (by decide : 14 + 0 ≤ _), (by decide : 54 + 0 ≤ _)⟩)
    dsimp only [Pt.U, Pt.locs, Pt.cells, Pt.slots] at X162 l162 y162 z162 st162 hQ162
    replace y162 : k162 = 14 := y162
    replace z162 : n162 = 54 := z162
    subst y162 z162
    obtain ⟨rfl, N162q, e162⟩ := hQ162
    have N162 : Fr n0 L162 := by rw [l162]; exact Fr.app N160 N162q
    have pr163 : ∀ t, Steps p.tables e below (T162.setTop (mkF m 281 #[.val (.int p1), .val (.int p2), .val (.int p3), .val (.long q4), .second, .val (.long q5), .second, .val (.ref b6), .val (.ref b7), .val .null, .val (.ref b93), .val (.ref b97), .val (.ref b101), .val (.ref b107), .val (.int (if (p3 &&& (1 : Int32)) = (0 : Int32) then (0 : Int32) else (1 : Int32))), .val (.int (if (p3 &&& (2 : Int32)) = (0 : Int32) then (0 : Int32) else (1 : Int32))), .val (.int (if (p3 &&& (4 : Int32)) = (0 : Int32) then (0 : Int32) else (1 : Int32))), .val (.ref (own_f7 ((((p3.toUInt32 >>> ((3 : Int32) &&& 31).toUInt32).toInt32) &&& (7 : Int32)) % (5 : Int32)) s_INTERNAL s_CLIENT s_SERVER s_PRODUCER s_CONSUMER)), .val (.ref b129), .val (.ref b138)] [])) t → Steps p.tables e below (s₁.setTop (entryFrame m #[(.int p1), (.int p2), (.int p3), (.long q4), (.long q5)] maxLocals)) t := by
      intro t k
      refine pr161 t ?_
      show Steps p.tables e below (T160.setTop (mkF m 265 #[.val (.int p1), .val (.int p2), .val (.int p3), .val (.long q4), .second, .val (.long q5), .second, .val (.ref b6), .val (.ref b7), .val .null, .val (.ref b93), .val (.ref b97), .val (.ref b101), .val (.ref b107), .val (.int (if (p3 &&& (1 : Int32)) = (0 : Int32) then (0 : Int32) else (1 : Int32))), .val (.int (if (p3 &&& (2 : Int32)) = (0 : Int32) then (0 : Int32) else (1 : Int32))), .val (.int (if (p3 &&& (4 : Int32)) = (0 : Int32) then (0 : Int32) else (1 : Int32))), .val (.ref (own_f7 ((((p3.toUInt32 >>> ((3 : Int32) &&& 31).toUInt32).toInt32) &&& (7 : Int32)) % (5 : Int32)) s_INTERNAL s_CLIENT s_SERVER s_PRODUCER s_CONSUMER)), .val (.ref b129), .val (.ref b138)] [(.long q4)])) _
      refine XS.lloadN X160.here hx rfl (hb hby at_265) rfl ?_
      show Steps p.tables e below (T160.setTop (mkF m 266 #[.val (.int p1), .val (.int p2), .val (.int p3), .val (.long q4), .second, .val (.long q5), .second, .val (.ref b6), .val (.ref b7), .val .null, .val (.ref b93), .val (.ref b97), .val (.ref b101), .val (.ref b107), .val (.int (if (p3 &&& (1 : Int32)) = (0 : Int32) then (0 : Int32) else (1 : Int32))), .val (.int (if (p3 &&& (2 : Int32)) = (0 : Int32) then (0 : Int32) else (1 : Int32))), .val (.int (if (p3 &&& (4 : Int32)) = (0 : Int32) then (0 : Int32) else (1 : Int32))), .val (.ref (own_f7 ((((p3.toUInt32 >>> ((3 : Int32) &&& 31).toUInt32).toInt32) &&& (7 : Int32)) % (5 : Int32)) s_INTERNAL s_CLIENT s_SERVER s_PRODUCER s_CONSUMER)), .val (.ref b129), .val (.ref b138)] [(.long q4), (.long q4)])) _
      refine XS.lcmp X160.here hx rfl (hb hby at_266) rfl ?_
      show Steps p.tables e below (T160.setTop (mkF m 267 #[.val (.int p1), .val (.int p2), .val (.int p3), .val (.long q4), .second, .val (.long q5), .second, .val (.ref b6), .val (.ref b7), .val .null, .val (.ref b93), .val (.ref b97), .val (.ref b101), .val (.ref b107), .val (.int (if (p3 &&& (1 : Int32)) = (0 : Int32) then (0 : Int32) else (1 : Int32))), .val (.int (if (p3 &&& (2 : Int32)) = (0 : Int32) then (0 : Int32) else (1 : Int32))), .val (.int (if (p3 &&& (4 : Int32)) = (0 : Int32) then (0 : Int32) else (1 : Int32))), .val (.ref (own_f7 ((((p3.toUInt32 >>> ((3 : Int32) &&& 31).toUInt32).toInt32) &&& (7 : Int32)) % (5 : Int32)) s_INTERNAL s_CLIENT s_SERVER s_PRODUCER s_CONSUMER)), .val (.ref b129), .val (.ref b138)] [(.int (lcmpW q4 q4))])) _
      refine XS.ifNo X160.here hx rfl (hb hby at_267) rfl ((if0 _ _).trans (teq ((lw_eq _ _).mpr rfl : (lcmpW q4 q4) = (0 : Int32))).2) ?_
      show Steps p.tables e below (T160.setTop (mkF m 270 #[.val (.int p1), .val (.int p2), .val (.int p3), .val (.long q4), .second, .val (.long q5), .second, .val (.ref b6), .val (.ref b7), .val .null, .val (.ref b93), .val (.ref b97), .val (.ref b101), .val (.ref b107), .val (.int (if (p3 &&& (1 : Int32)) = (0 : Int32) then (0 : Int32) else (1 : Int32))), .val (.int (if (p3 &&& (2 : Int32)) = (0 : Int32) then (0 : Int32) else (1 : Int32))), .val (.int (if (p3 &&& (4 : Int32)) = (0 : Int32) then (0 : Int32) else (1 : Int32))), .val (.ref (own_f7 ((((p3.toUInt32 >>> ((3 : Int32) &&& 31).toUInt32).toInt32) &&& (7 : Int32)) % (5 : Int32)) s_INTERNAL s_CLIENT s_SERVER s_PRODUCER s_CONSUMER)), .val (.ref b129), .val (.ref b138)] [])) _
      refine XS.aload X160.here hx rfl (hb hby at_270) rfl rfl ?_
      show Steps p.tables e below (T160.setTop (mkF m 272 #[.val (.int p1), .val (.int p2), .val (.int p3), .val (.long q4), .second, .val (.long q5), .second, .val (.ref b6), .val (.ref b7), .val .null, .val (.ref b93), .val (.ref b97), .val (.ref b101), .val (.ref b107), .val (.int (if (p3 &&& (1 : Int32)) = (0 : Int32) then (0 : Int32) else (1 : Int32))), .val (.int (if (p3 &&& (2 : Int32)) = (0 : Int32) then (0 : Int32) else (1 : Int32))), .val (.int (if (p3 &&& (4 : Int32)) = (0 : Int32) then (0 : Int32) else (1 : Int32))), .val (.ref (own_f7 ((((p3.toUInt32 >>> ((3 : Int32) &&& 31).toUInt32).toInt32) &&& (7 : Int32)) % (5 : Int32)) s_INTERNAL s_CLIENT s_SERVER s_PRODUCER s_CONSUMER)), .val (.ref b129), .val (.ref b138)] [(.ref b138)])) _
      refine st162.trans ?_
      show Steps p.tables e below (T162.setTop (mkF m 275 #[.val (.int p1), .val (.int p2), .val (.int p3), .val (.long q4), .second, .val (.long q5), .second, .val (.ref b6), .val (.ref b7), .val .null, .val (.ref b93), .val (.ref b97), .val (.ref b101), .val (.ref b107), .val (.int (if (p3 &&& (1 : Int32)) = (0 : Int32) then (0 : Int32) else (1 : Int32))), .val (.int (if (p3 &&& (2 : Int32)) = (0 : Int32) then (0 : Int32) else (1 : Int32))), .val (.int (if (p3 &&& (4 : Int32)) = (0 : Int32) then (0 : Int32) else (1 : Int32))), .val (.ref (own_f7 ((((p3.toUInt32 >>> ((3 : Int32) &&& 31).toUInt32).toInt32) &&& (7 : Int32)) % (5 : Int32)) s_INTERNAL s_CLIENT s_SERVER s_PRODUCER s_CONSUMER)), .val (.ref b129), .val (.ref b138)] [(.long q5)])) _
      refine XS.lload X162.here hx rfl (hb hby at_275) rfl ?_
      show Steps p.tables e below (T162.setTop (mkF m 277 #[.val (.int p1), .val (.int p2), .val (.int p3), .val (.long q4), .second, .val (.long q5), .second, .val (.ref b6), .val (.ref b7), .val .null, .val (.ref b93), .val (.ref b97), .val (.ref b101), .val (.ref b107), .val (.int (if (p3 &&& (1 : Int32)) = (0 : Int32) then (0 : Int32) else (1 : Int32))), .val (.int (if (p3 &&& (2 : Int32)) = (0 : Int32) then (0 : Int32) else (1 : Int32))), .val (.int (if (p3 &&& (4 : Int32)) = (0 : Int32) then (0 : Int32) else (1 : Int32))), .val (.ref (own_f7 ((((p3.toUInt32 >>> ((3 : Int32) &&& 31).toUInt32).toInt32) &&& (7 : Int32)) % (5 : Int32)) s_INTERNAL s_CLIENT s_SERVER s_PRODUCER s_CONSUMER)), .val (.ref b129), .val (.ref b138)] [(.long q5), (.long q5)])) _
      refine XS.lcmp X162.here hx rfl (hb hby at_277) rfl ?_
      show Steps p.tables e below (T162.setTop (mkF m 278 #[.val (.int p1), .val (.int p2), .val (.int p3), .val (.long q4), .second, .val (.long q5), .second, .val (.ref b6), .val (.ref b7), .val .null, .val (.ref b93), .val (.ref b97), .val (.ref b101), .val (.ref b107), .val (.int (if (p3 &&& (1 : Int32)) = (0 : Int32) then (0 : Int32) else (1 : Int32))), .val (.int (if (p3 &&& (2 : Int32)) = (0 : Int32) then (0 : Int32) else (1 : Int32))), .val (.int (if (p3 &&& (4 : Int32)) = (0 : Int32) then (0 : Int32) else (1 : Int32))), .val (.ref (own_f7 ((((p3.toUInt32 >>> ((3 : Int32) &&& 31).toUInt32).toInt32) &&& (7 : Int32)) % (5 : Int32)) s_INTERNAL s_CLIENT s_SERVER s_PRODUCER s_CONSUMER)), .val (.ref b129), .val (.ref b138)] [(.int (lcmpW q5 q5))])) _
      refine XS.ifNo X162.here hx rfl (hb hby at_278) rfl ((if0 _ _).trans (teq ((lw_eq _ _).mpr rfl : (lcmpW q5 q5) = (0 : Int32))).2) ?_
      exact k
    obtain ⟨fs, hr, hrun, hended, hW, hsame⟩ := X162.leave (v := some (.int (1 : Int32))) (fun h => by rw [Bd.returns] at h; cases h)
    refine ⟨_, _, pr163 _ ?_, hrun, hended, _, _, rfl, ?_, ⟨_, rfl⟩, hW, hsame.mono (by decide) (by decide)⟩
    · show Steps p.tables e below (T162.setTop (mkF m 281 #[.val (.int p1), .val (.int p2), .val (.int p3), .val (.long q4), .second, .val (.long q5), .second, .val (.ref b6), .val (.ref b7), .val .null, .val (.ref b93), .val (.ref b97), .val (.ref b101), .val (.ref b107), .val (.int (if (p3 &&& (1 : Int32)) = (0 : Int32) then (0 : Int32) else (1 : Int32))), .val (.int (if (p3 &&& (2 : Int32)) = (0 : Int32) then (0 : Int32) else (1 : Int32))), .val (.int (if (p3 &&& (4 : Int32)) = (0 : Int32) then (0 : Int32) else (1 : Int32))), .val (.ref (own_f7 ((((p3.toUInt32 >>> ((3 : Int32) &&& 31).toUInt32).toInt32) &&& (7 : Int32)) % (5 : Int32)) s_INTERNAL s_CLIENT s_SERVER s_PRODUCER s_CONSUMER)), .val (.ref b129), .val (.ref b138)] [])) _
      refine XS.iconst X162.here hx rfl (hb hby at_281) ?_
      show Steps p.tables e below (T162.setTop (mkF m 282 #[.val (.int p1), .val (.int p2), .val (.int p3), .val (.long q4), .second, .val (.long q5), .second, .val (.ref b6), .val (.ref b7), .val .null, .val (.ref b93), .val (.ref b97), .val (.ref b101), .val (.ref b107), .val (.int (if (p3 &&& (1 : Int32)) = (0 : Int32) then (0 : Int32) else (1 : Int32))), .val (.int (if (p3 &&& (2 : Int32)) = (0 : Int32) then (0 : Int32) else (1 : Int32))), .val (.int (if (p3 &&& (4 : Int32)) = (0 : Int32) then (0 : Int32) else (1 : Int32))), .val (.ref (own_f7 ((((p3.toUInt32 >>> ((3 : Int32) &&& 31).toUInt32).toInt32) &&& (7 : Int32)) % (5 : Int32)) s_INTERNAL s_CLIENT s_SERVER s_PRODUCER s_CONSUMER)), .val (.ref b129), .val (.ref b138)] [(.int (1 : Int32))])) _
      refine XS.goto X162.here hx rfl (pc0 := 282) (pc' := 286) rfl (hb hby at_282) (by decide) (by decide) ?_
      show Steps p.tables e below (T162.setTop (mkF m 286 #[.val (.int p1), .val (.int p2), .val (.int p3), .val (.long q4), .second, .val (.long q5), .second, .val (.ref b6), .val (.ref b7), .val .null, .val (.ref b93), .val (.ref b97), .val (.ref b101), .val (.ref b107), .val (.int (if (p3 &&& (1 : Int32)) = (0 : Int32) then (0 : Int32) else (1 : Int32))), .val (.int (if (p3 &&& (2 : Int32)) = (0 : Int32) then (0 : Int32) else (1 : Int32))), .val (.int (if (p3 &&& (4 : Int32)) = (0 : Int32) then (0 : Int32) else (1 : Int32))), .val (.ref (own_f7 ((((p3.toUInt32 >>> ((3 : Int32) &&& 31).toUInt32).toInt32) &&& (7 : Int32)) % (5 : Int32)) s_INTERNAL s_CLIENT s_SERVER s_PRODUCER s_CONSUMER)), .val (.ref b129), .val (.ref b138)] [(.int (1 : Int32))])) _
      exact retN X162 hx (t := .boolean) Bd.returns (by simp) (hb hby at_286) hr
    · show Q0 Z p1 p2 p3 q4 q5 s_COMPACT_STRINGS s_INTERNAL s_CLIENT s_SERVER s_PRODUCER s_CONSUMER h0 n0 _ T162.heap _
      rw [e162]
      exact ⟨rfl, N162⟩
set_option maxRecDepth 65536 in
set_option maxHeartbeats 40000000 in
theorem comes_1 {Post : Tables → Env → Array Value → State → Outcome → State → Prop} (hpost : ∀ tb e args s v u, (limb_1_1.after args s (.returned v) u = true ∧ limb_1_2.after args s (.returned v) u = true ∧ True) → FrameEnd s (.returned v) u (Jvm.fieldLocs frame_1_writes args s ++ Jvm.arrayLocs frame_1_arrays args s ++ Jvm.staticLocs frame_1_statics s) 40 192 → Post tb e args s (.returned v) u) :
    ArmFor flags0 classFile x code maxLocals ret World_1 tables_1 room_1 Calls_1 rest_1 Pre_1 Post := by
  intro l hfl _ _ p e ha hc hk s m args below hf hA hF happ hP
  obtain ⟨hcalls, hrest, hpre⟩ := hP
  obtain ⟨-, -, -, hnamed, -, -, -, hat⟩ := (Spec.applies_iff hf).mp happ
  obtain ⟨hg, hn⟩ := and_e (Cond.before_iff.mp (show (Jvm.Cond.and given_1 narrow_1).before args s = true from hpre))
  obtain ⟨c1, c2⟩ := and_e hg
  obtain ⟨c3, c4⟩ := and_e c2
  obtain ⟨c5, c6⟩ := and_e c4
  obtain ⟨c7, c8⟩ := and_e c6
  obtain ⟨c9, c10⟩ := and_e c8
  obtain ⟨w0, w1, w2, w3, w4, rfl⟩ : ∃ w0 w1 w2 w3 w4 : Value, args = #[w0, w1, w2, w3, w4] := by
    have hs : args.size = 5 := by simpa [Cond.value, given_1] using c1
    obtain ⟨L⟩ := args
    match L, hs with
    | [w0, w1, w2, w3, w4], _ => exact ⟨w0, w1, w2, w3, w4, rfl⟩
  have hw := fun d (hd : d ∈ tables_1) => atoms_spec (ws := Jvm.Cond.code x code maxLocals ret :: tables_1) hat d (List.mem_cons_of_mem _ hd)
  have hfit : Fit s := fun {y c} hc i hi => by
    obtain ⟨ha, rfl⟩ := Array.getElem?_eq_some_iff.mp hc
    have q := List.all_eq_true.mp ((Array.all_eq_true_iff_forall_mem.mp hF) _ (Array.getElem_mem ha)) i (List.mem_range.mpr hi)
    simpa [Array.getElem?_eq_getElem hi] using q
  obtain ⟨hsets, hown0⟩ := atoms_of _ (rest_1_c_eq ▸ (show rest_1_c.before _ s = true from hrest))
  obtain ⟨i0, ei0⟩ := is_v c3
  obtain rfl : w0 = (.int i0) := Option.some.inj ei0
  obtain ⟨i1, ei1⟩ := is_v c5
  obtain rfl : w1 = (.int i1) := Option.some.inj ei1
  obtain ⟨i2, ei2⟩ := is_v c7
  obtain rfl : w2 = (.int i2) := Option.some.inj ei2
  obtain ⟨i3, ei3⟩ := isL_v c9
  obtain rfl : w3 = (.long i3) := Option.some.inj ei3
  obtain ⟨i4, ei4⟩ := isL_v c10
  obtain rfl : w4 = (.long i4) := Option.some.inj ei4
  obtain ⟨c11, c12⟩ := and_e hn
  obtain ⟨c13, c14⟩ := and_e c12
  obtain ⟨c15, c16⟩ := and_e c14
  obtain ⟨c17, c18⟩ := and_e c16
  obtain ⟨s_INTERNAL, ev_INTERNAL⟩ := exa_v c11
  have E_INTERNAL := Exa.start ev_INTERNAL c11
  have S_INTERNAL := Sta.start ev_INTERNAL (Or.inr ⟨(hw _ (List.mem_of_getElem? (i := 34) rfl)), (hw _ (List.mem_of_getElem? (i := 35) rfl))⟩)
  obtain ⟨s_CLIENT, ev_CLIENT⟩ := exa_v c13
  have E_CLIENT := Exa.start ev_CLIENT c13
  have S_CLIENT := Sta.start ev_CLIENT (Or.inr ⟨(hw _ (List.mem_of_getElem? (i := 34) rfl)), (hw _ (List.mem_of_getElem? (i := 140) rfl))⟩)
  obtain ⟨s_PRODUCER, ev_PRODUCER⟩ := exa_v c15
  have E_PRODUCER := Exa.start ev_PRODUCER c15
  have S_PRODUCER := Sta.start ev_PRODUCER (Or.inr ⟨(hw _ (List.mem_of_getElem? (i := 34) rfl)), (hw _ (List.mem_of_getElem? (i := 142) rfl))⟩)
  obtain ⟨s_CONSUMER, ev_CONSUMER⟩ := exa_v c17
  have E_CONSUMER := Exa.start ev_CONSUMER c17
  have S_CONSUMER := Sta.start ev_CONSUMER (Or.inr ⟨(hw _ (List.mem_of_getElem? (i := 34) rfl)), (hw _ (List.mem_of_getElem? (i := 144) rfl))⟩)
  obtain ⟨s_SERVER, ev_SERVER⟩ := exa_v c18
  have E_SERVER := Exa.start ev_SERVER c18
  have S_SERVER := Sta.start ev_SERVER (Or.inr ⟨(hw _ (List.mem_of_getElem? (i := 34) rfl)), (hw _ (List.mem_of_getElem? (i := 146) rfl))⟩)
  obtain ⟨s_COMPACT_STRINGS, ev_CS⟩ := is_v (Cond.before_iff.mp (hsets _ (List.mem_of_getElem? (i := 1) rfl)))
  have S_COMPACT_STRINGS := Sta.start ev_CS (Or.inl (hsets _ (List.mem_of_getElem? (i := 0) rfl)))
  have hcs : ¬ (s_COMPACT_STRINGS = (0 : Int32)) := own_ne0 ev_CS (Cond.before_iff.mp (hsets _ (List.mem_of_getElem? (i := 2) rfl)))
  obtain ⟨n, o, h1, h2, h3, _, L, rfl, ⟨rfl, N⟩, hq⟩ := rm0 l s _ hw tables_1 i0 i1 i2 i3 i4 s_COMPACT_STRINGS s_INTERNAL s_CLIENT s_SERVER s_PRODUCER s_CONSUMER s.heap s.heap.size (Nat.le_refl _) S_COMPACT_STRINGS hcs S_INTERNAL S_CLIENT S_SERVER S_PRODUCER S_CONSUMER p e ha hc hk s m _ below hf ((Spec.applies_iff_loose hf).mp happ).1 ⟨rfl, State.Warmed39.refl s, rfl⟩ trivial
  refine ⟨n, _, h1, h2, h3, hpost _ _ _ _ _ _ ⟨Cond.after_iff.mpr rfl, Cond.after_iff.mpr (eq_i res_at (Term.int_eval (1)) rfl), trivial⟩ ⟨hq.1, hq.2.1, (hq.2.2.sift fun y hy => Or.inr (N y hy)).mono (by decide) (by decide)⟩⟩
theorem main_1_1 : Claimed_1_1 := comes_1 fun _ _ _ _ _ _ h hF => ⟨h.1, hF⟩
theorem main_1_2 : Claimed_1_2 := comes_1 fun _ _ _ _ _ _ h hF => ⟨h.2.1, hF⟩
end Jvm.Pilot.@@N@@
namespace Jvm.Pilot.@@N@@
open Jvm Jvm.ClassFile Sem Op Lib Jvm.Free Jvm.Stand Jvm.Pilot.@@N@@.Jvm.D
/-! MADE BY PROGRAM (witnessworld.py) out of the Statement's table words and the real class files: 20 classes; the members and pool entries that the words name. The judged class is class 1, her method 3. -/
namespace start1
open Jvm.ClassFile
def u (s : String) : CpInfo := .utf8 (stringToUtf16 s)
/-- a pool by its gaps: so many unusable entries, then the entry; so many at the end -/
def gap : Nat → List CpInfo → List CpInfo
  | 0, r => r
  | n + 1, r => .unusable :: gap n r
def poolList (es : List (Nat × CpInfo)) (last : Nat) : List CpInfo := es.foldr (fun e r => gap e.1 (e.2 :: r)) (gap last [])
def pool (es : List (Nat × CpInfo)) (last : Nat) : Array CpInfo := ⟨poolList es last⟩
def fileOf (pool : Array CpInfo) (this : Nat) (attrs : Array Attribute := #[]) (ms : Array MethodInfo := #[]) (fl : Nat := 33) (sup : Nat := 0) (ifs : Array Nat := #[]) (fds : Array FieldInfo := #[]) : ClassFile where
  minorVersion := 0
  majorVersion := 65
  constantPool := pool
  accessFlags := fl
  thisClass := this
  superClass := sup
  interfaces := ifs
  fields := fds
  methods := ms
  attributes := attrs
def plain (name : String) (sup : Option ClassId) : Class where
  name := name
  kind := .ordinary
  loader := none
  accessFlags := 33
  super := sup
  interfaces := #[]
  cf := none
  fields := #[]
  methods := #[]
  instanceTypes := #[]
  staticTypes := #[]
  resolved := #[]
  callSites := []
  init := .initialized
  statics := none
  mirror := none

def pool0 : Array CpInfo := pool [(5, u "<init>"), (0, u "()V"), (1, .class_ 10), (1, u "java/lang/Object")] 113

def k0c0 : Code := { maxStack := 0, maxLocals := 1, code := object_method_1_code, exceptionTable := #[], attributes := #[] }
def k0m0 : Method := { name := "<init>", desc := "()V", sig := { parameters := [], returnType := none }, accessFlags := 1, code := some k0c0 }
/-- java/lang/Object -/
def k0 : Class := { plain "java/lang/Object" none with
  accessFlags := 33
  interfaces := #[]
  cf := some (fileOf pool0 8 #[] #[{ accessFlags := 1, nameIndex := 5, descriptorIndex := 6, attributes := #[] }] 33 0 #[] #[])
  fields := #[]
  methods := #[k0m0]
  instanceTypes := #[]
  staticTypes := #[]
  resolved := Array.replicate 124 none
  statics := none }

def pool1 : Array CpInfo := pool [(2, .class_ 4), (1, u "java/lang/Object"), (0, u "<init>"), (0, u "()V"), (0, .methodref 8 9), (0, .class_ 10), (0, .nameAndType 11 12), (0, u "java/lang/String"), (0, u "valueOf"), (0, u "(C)Ljava/lang/String;"), (0, .fieldref 14 15), (0, .class_ 16), (0, .nameAndType 17 18), (0, u "com/example/longpole/longpole/Span$Kind"), (0, u "INTERNAL"), (0, u "Lcom/example/longpole/longpole/Span$Kind;"), (0, .fieldref 14 20), (0, .nameAndType 21 18), (0, u "CLIENT"), (0, .fieldref 14 23), (0, .nameAndType 24 18), (0, u "SERVER"), (0, .fieldref 14 26), (0, .nameAndType 27 18), (0, u "PRODUCER"), (0, .fieldref 14 29), (0, .nameAndType 30 18), (0, u "CONSUMER"), (0, .methodref 32 33), (0, .class_ 34), (0, .nameAndType 35 36), (0, u "com/example/longpole/longpole/SpanWithServicePinLaw"), (0, u "str"), (0, u "(II)Ljava/lang/String;"), (0, .methodref 32 38), (0, .nameAndType 39 40), (0, u "kind"), (0, u "(I)Lcom/example/longpole/longpole/Span$Kind;"), (0, .class_ 42), (0, u "com/example/longpole/longpole/Span"), (0, .methodref 41 44), (0, .nameAndType 5 45), (0, u "(Ljava/lang/String;Ljava/lang/String;Ljava/lang/String;ZLcom/example/longpole/longpole/Span$Kind;ZLjava/lang/String;Ljava/lang/String;Ljava/lang/String;ZJJ)V"), (0, .methodref 41 47), (0, .nameAndType 48 49), (0, u "withService"), (0, u "(Ljava/lang/String;)Lcom/example/longpole/longpole/Span;"), (0, .methodref 41 51), (0, .nameAndType 52 53), (0, u "traceId"), (0, u "()Ljava/lang/String;"), (0, .methodref 41 55), (0, .nameAndType 56 53), (0, u "id"), (0, .methodref 41 58), (0, .nameAndType 59 53), (0, u "parentId"), (0, .methodref 41 61), (0, .nameAndType 62 63), (0, u "awaited"), (0, u "()Z"), (0, .methodref 41 65), (0, .nameAndType 39 66), (0, u "()Lcom/example/longpole/longpole/Span$Kind;"), (0, .methodref 41 68), (0, .nameAndType 69 63), (0, u "shared"), (0, .methodref 41 71), (0, .nameAndType 72 53), (0, u "service"), (0, .methodref 41 74), (0, .nameAndType 75 53), (0, u "name"), (0, .methodref 41 77), (0, .nameAndType 78 53), (0, u "remoteService"), (0, .methodref 41 80), (0, .nameAndType 81 63), (0, u "hasTimestamp"), (0, .methodref 41 83), (0, .nameAndType 84 85), (0, u "startMicros"), (0, u "()J"), (0, .methodref 41 87), (0, .nameAndType 88 85), (0, u "durationMicros"), (3, u "law"), (0, u "(IIIJJ)Z")] 4

def k1m0 : Method := { name := "<init>", desc := "()V", sig := { parameters := [], returnType := none }, accessFlags := 1, code := none }
def k1c1 : Code := { maxStack := 2, maxLocals := 2, code := method_2_code, exceptionTable := #[], attributes := #[] }
def k1m1 : Method := { name := "str", desc := "(II)Ljava/lang/String;", sig := { parameters := [.int, .int], returnType := some (.object "java/lang/String") }, accessFlags := 10, code := some k1c1 }
def k1c2 : Code := { maxStack := 2, maxLocals := 1, code := method_3_code, exceptionTable := #[], attributes := #[] }
def k1m2 : Method := { name := "kind", desc := "(I)Lcom/example/longpole/longpole/Span$Kind;", sig := { parameters := [.int], returnType := some (.object "com/example/longpole/longpole/Span$Kind") }, accessFlags := 10, code := some k1c2 }
def k1c3 : Code := { maxStack := 16, maxLocals := 20, code := code, exceptionTable := #[], attributes := #[] }
def k1m3 : Method := { name := "law", desc := "(IIIJJ)Z", sig := { parameters := [.int, .int, .int, .long, .long], returnType := some .boolean }, accessFlags := 9, code := some k1c3 }
/-- com/example/longpole/longpole/SpanWithServicePinLaw -/
def k1 : Class := { plain "com/example/longpole/longpole/SpanWithServicePinLaw" (some 0) with
  accessFlags := 49
  interfaces := #[]
  cf := some (fileOf pool1 32 #[] #[{ accessFlags := 1, nameIndex := 5, descriptorIndex := 6, attributes := #[] }, { accessFlags := 10, nameIndex := 35, descriptorIndex := 36, attributes := #[] }, { accessFlags := 10, nameIndex := 39, descriptorIndex := 40, attributes := #[] }, { accessFlags := 9, nameIndex := 92, descriptorIndex := 93, attributes := #[] }] 49 2 #[] #[])
  fields := #[]
  methods := #[k1m0, k1m1, k1m2, k1m3]
  instanceTypes := #[]
  staticTypes := #[]
  resolved := Array.replicate 98 none
  statics := none }

def pool2 : Array CpInfo := pool [(1, .class_ 2), (0, u "java/io/Serializable"), (0, .class_ 4), (0, u "java/lang/Object")] 2

/-- java/io/Serializable -/
def k2 : Class := { plain "java/io/Serializable" (some 0) with
  accessFlags := 1537
  interfaces := #[]
  cf := some (fileOf pool2 1 #[] #[] 1537 3 #[] #[])
  fields := #[]
  methods := #[]
  instanceTypes := #[]
  staticTypes := #[]
  resolved := Array.replicate 7 none
  statics := none }

def pool3 : Array CpInfo := pool [(1, .class_ 2), (0, u "java/lang/Comparable"), (0, .class_ 4), (0, u "java/lang/Object")] 7

/-- java/lang/Comparable -/
def k3 : Class := { plain "java/lang/Comparable" (some 0) with
  accessFlags := 1537
  interfaces := #[]
  cf := some (fileOf pool3 1 #[] #[] 1537 3 #[] #[])
  fields := #[]
  methods := #[]
  instanceTypes := #[]
  staticTypes := #[]
  resolved := Array.replicate 12 none
  statics := none }

def pool4 : Array CpInfo := pool [(2, .class_ 4), (1, u "java/lang/CharSequence"), (42, .class_ 48), (0, u "java/lang/CharSequence$1CodePointIterator"), (10, .class_ 60), (0, u "java/lang/CharSequence$1CharIterator"), (5, .class_ 67), (0, u "java/lang/Object")] 63

/-- java/lang/CharSequence -/
def k4 : Class := { plain "java/lang/CharSequence" (some 0) with
  accessFlags := 1537
  interfaces := #[]
  cf := some (fileOf pool4 2 #[.nestMembers #[47, 59]] #[] 1537 66 #[] #[])
  fields := #[]
  methods := #[]
  instanceTypes := #[]
  staticTypes := #[]
  resolved := Array.replicate 131 none
  statics := none }

def pool5 : Array CpInfo := pool [(1, .class_ 2), (0, u "java/lang/constant/Constable"), (0, .class_ 4), (0, u "java/lang/Object")] 6

/-- java/lang/constant/Constable -/
def k5 : Class := { plain "java/lang/constant/Constable" (some 0) with
  accessFlags := 1537
  interfaces := #[]
  cf := some (fileOf pool5 1 #[] #[] 1537 3 #[] #[])
  fields := #[]
  methods := #[]
  instanceTypes := #[]
  staticTypes := #[]
  resolved := Array.replicate 11 none
  statics := none }

def pool6 : Array CpInfo := pool [(1, .class_ 2), (0, u "java/lang/constant/ConstantDesc"), (0, .class_ 4), (0, u "java/lang/Object")] 32

/-- java/lang/constant/ConstantDesc -/
def k6 : Class := { plain "java/lang/constant/ConstantDesc" (some 0) with
  accessFlags := 1537
  interfaces := #[]
  cf := some (fileOf pool6 1 #[] #[] 1537 3 #[] #[])
  fields := #[]
  methods := #[]
  instanceTypes := #[]
  staticTypes := #[]
  resolved := Array.replicate 37 none
  statics := none }

def pool7 : Array CpInfo := pool [(1, .methodref 2 3), (0, .class_ 4), (0, .nameAndType 5 6), (0, u "java/lang/Object"), (0, u "<init>"), (0, u "()V"), (2, .fieldref 10 11), (0, .class_ 12), (0, .nameAndType 13 14), (0, u "java/lang/String"), (0, u "value"), (0, u "[B"), (0, .fieldref 10 16), (0, .nameAndType 17 18), (0, u "coder"), (0, u "B"), (2, u "hash"), (0, u "I"), (2, u "hashIsZero"), (0, u "Z"), (11, .fieldref 10 39), (0, .nameAndType 40 26), (0, u "COMPACT_STRINGS"), (12, u "toBytes"), (53, .class_ 109), (1, u "java/lang/StringLatin1"), (99, .methodref 10 210), (0, .nameAndType 5 211), (0, u "([BB)V"), (157, u "(C)Z"), (205, .class_ 576), (0, u "java/lang/CharSequence"), (22, u "CASE_INSENSITIVE_ORDER"), (0, u "Ljava/util/Comparator;"), (181, u "valueOf"), (0, u "(C)Ljava/lang/String;"), (231, .methodref 107 1016), (0, .nameAndType 1017 369), (0, u "canEncode"), (0, .methodref 107 1019), (0, .nameAndType 53 1020), (0, u "(C)[B"), (80, u "serialPersistentFields"), (0, u "[Ljava/io/ObjectStreamField;"), (0, .class_ 1104), (0, u "java/lang/String$CaseInsensitiveComparator"), (1, .class_ 1107), (0, u "java/io/Serializable"), (0, .class_ 1109), (0, u "java/lang/Comparable"), (0, .class_ 1111), (0, u "java/lang/constant/Constable"), (0, .class_ 1113), (0, u "java/lang/constant/ConstantDesc"), (2, u "serialVersionUID"), (0, u "J"), (3, u "REPL"), (0, u "C"), (2, u "LATIN1"), (1, u "UTF16")] 323

def k7m0 : Method := { name := "<init>", desc := "()V", sig := { parameters := [], returnType := none }, accessFlags := 1, code := none }
def k7c1 : Code := { maxStack := 4, maxLocals := 1, code := jdk_42_method_139_code, exceptionTable := #[], attributes := #[] }
def k7m1 : Method := { name := "valueOf", desc := "(C)Ljava/lang/String;", sig := { parameters := [.char], returnType := some (.object "java/lang/String") }, accessFlags := 9, code := some k7c1 }
def k7c2 : Code := { maxStack := 2, maxLocals := 3, code := jdk_42_method_151_code, exceptionTable := #[], attributes := #[] }
def k7m2 : Method := { name := "<init>", desc := "([BB)V", sig := { parameters := [(.array .byte), .byte], returnType := none }, accessFlags := 0, code := some k7c2 }
/-- java/lang/String -/
def k7 : Class := { plain "java/lang/String" (some 0) with
  accessFlags := 49
  interfaces := #[2, 3, 4, 5, 6]
  cf := some (fileOf pool7 10 #[.nestMembers #[1103]] #[{ accessFlags := 1, nameIndex := 5, descriptorIndex := 6, attributes := #[] }, { accessFlags := 9, nameIndex := 782, descriptorIndex := 783, attributes := #[] }, { accessFlags := 0, nameIndex := 5, descriptorIndex := 211, attributes := #[] }] 49 2 #[1106, 1108, 575, 1110, 1112] #[{ accessFlags := 18, nameIndex := 13, descriptorIndex := 14, attributes := #[] }, { accessFlags := 18, nameIndex := 17, descriptorIndex := 18, attributes := #[] }, { accessFlags := 2, nameIndex := 21, descriptorIndex := 22, attributes := #[] }, { accessFlags := 2, nameIndex := 25, descriptorIndex := 26, attributes := #[] }, { accessFlags := 26, nameIndex := 1116, descriptorIndex := 1117, attributes := #[] }, { accessFlags := 24, nameIndex := 40, descriptorIndex := 26, attributes := #[] }, { accessFlags := 26, nameIndex := 1101, descriptorIndex := 1102, attributes := #[] }, { accessFlags := 26, nameIndex := 1121, descriptorIndex := 1122, attributes := #[] }, { accessFlags := 25, nameIndex := 599, descriptorIndex := 600, attributes := #[] }, { accessFlags := 24, nameIndex := 1125, descriptorIndex := 18, attributes := #[] }, { accessFlags := 24, nameIndex := 1127, descriptorIndex := 18, attributes := #[] }])
  fields := #[{ name := "value", type := (.array .byte), accessFlags := 18, slot := 0, constantValue := 0 }, { name := "coder", type := .byte, accessFlags := 18, slot := 1, constantValue := 0 }, { name := "hash", type := .int, accessFlags := 2, slot := 2, constantValue := 0 }, { name := "hashIsZero", type := .boolean, accessFlags := 2, slot := 3, constantValue := 0 }, { name := "serialVersionUID", type := .long, accessFlags := 26, slot := 0, constantValue := 0 }, { name := "COMPACT_STRINGS", type := .boolean, accessFlags := 24, slot := 1, constantValue := 0 }, { name := "serialPersistentFields", type := (.array (.object "java/io/ObjectStreamField")), accessFlags := 26, slot := 2, constantValue := 0 }, { name := "REPL", type := .char, accessFlags := 26, slot := 3, constantValue := 0 }, { name := "CASE_INSENSITIVE_ORDER", type := (.object "java/util/Comparator"), accessFlags := 25, slot := 4, constantValue := 0 }, { name := "LATIN1", type := .byte, accessFlags := 24, slot := 5, constantValue := 0 }, { name := "UTF16", type := .byte, accessFlags := 24, slot := 6, constantValue := 0 }]
  methods := #[k7m0, k7m1, k7m2]
  instanceTypes := #[(.array .byte), .byte, .int, .boolean]
  staticTypes := #[.long, .boolean, (.array (.object "java/io/ObjectStreamField")), .char, (.object "java/util/Comparator"), .byte, .byte]
  resolved := Array.replicate 1451 none
  statics := some 0 }

def pool8 : Array CpInfo := pool [(4, .class_ 6), (1, u "java/lang/Object"), (0, u "<init>"), (0, u "()V"), (5, .class_ 16), (1, u "java/lang/StringLatin1"), (73, u "canEncode"), (14, u "(C)Z"), (15, u "$assertionsDisabled"), (0, u "Z"), (98, .class_ 223), (1, u "java/lang/StringLatin1$LinesSpliterator"), (156, u "toBytes"), (1, u "(C)[B"), (7, .class_ 391), (0, u "java/lang/StringLatin1$CharsSpliterator")] 3

def k8m0 : Method := { name := "<init>", desc := "()V", sig := { parameters := [], returnType := none }, accessFlags := 0, code := none }
def k8c1 : Code := { maxStack := 2, maxLocals := 1, code := jdk_43_method_3_code, exceptionTable := #[], attributes := #[] }
def k8m1 : Method := { name := "canEncode", desc := "(C)Z", sig := { parameters := [.char], returnType := some .boolean }, accessFlags := 9, code := some k8c1 }
def k8c2 : Code := { maxStack := 4, maxLocals := 1, code := jdk_43_method_46_code, exceptionTable := #[], attributes := #[] }
def k8m2 : Method := { name := "toBytes", desc := "(C)[B", sig := { parameters := [.char], returnType := some (.array .byte) }, accessFlags := 9, code := some k8c2 }
/-- java/lang/StringLatin1 -/
def k8 : Class := { plain "java/lang/StringLatin1" (some 0) with
  accessFlags := 48
  interfaces := #[]
  cf := some (fileOf pool8 14 #[.nestMembers #[390, 221]] #[{ accessFlags := 0, nameIndex := 7, descriptorIndex := 8, attributes := #[] }, { accessFlags := 9, nameIndex := 90, descriptorIndex := 105, attributes := #[] }, { accessFlags := 9, nameIndex := 380, descriptorIndex := 382, attributes := #[] }] 48 4 #[] #[{ accessFlags := 4120, nameIndex := 121, descriptorIndex := 122, attributes := #[] }])
  fields := #[{ name := "$assertionsDisabled", type := .boolean, accessFlags := 4120, slot := 0, constantValue := 0 }]
  methods := #[k8m0, k8m1, k8m2]
  instanceTypes := #[]
  staticTypes := #[.boolean]
  resolved := Array.replicate 395 none
  statics := none }

def pool9 : Array CpInfo := pool [(2, .class_ 4), (1, u "java/lang/Enum"), (0, u "name"), (0, u "Ljava/lang/String;"), (2, u "ordinal"), (0, u "I"), (1, .class_ 14), (1, u "java/lang/Object"), (4, u "hash"), (86, .class_ 108), (1, u "java/lang/Enum$EnumDesc"), (2, .class_ 112), (0, u "java/lang/constant/Constable"), (0, .class_ 114), (0, u "java/lang/Comparable"), (0, .class_ 116), (0, u "java/io/Serializable")] 87

/-- java/lang/Enum -/
def k9 : Class := { plain "java/lang/Enum" (some 0) with
  accessFlags := 1057
  interfaces := #[5, 3, 2]
  cf := some (fileOf pool9 2 #[.nestMembers #[106]] #[] 1057 12 #[111, 113, 115] #[{ accessFlags := 18, nameIndex := 5, descriptorIndex := 6, attributes := #[] }, { accessFlags := 18, nameIndex := 9, descriptorIndex := 10, attributes := #[] }, { accessFlags := 2, nameIndex := 19, descriptorIndex := 10, attributes := #[] }])
  fields := #[{ name := "name", type := (.object "java/lang/String"), accessFlags := 18, slot := 0, constantValue := 0 }, { name := "ordinal", type := .int, accessFlags := 18, slot := 1, constantValue := 0 }, { name := "hash", type := .int, accessFlags := 2, slot := 2, constantValue := 0 }]
  methods := #[]
  instanceTypes := #[(.object "java/lang/String"), .int, .int]
  staticTypes := #[]
  resolved := Array.replicate 204 none
  statics := none }

def pool10 : Array CpInfo := pool [(1, .class_ 2), (0, u "com/example/longpole/longpole/Span$Kind"), (2, u "INTERNAL"), (0, u "Lcom/example/longpole/longpole/Span$Kind;"), (2, u "CLIENT"), (2, u "SERVER"), (2, u "PRODUCER"), (2, u "CONSUMER"), (2, u "$VALUES"), (0, u "[Lcom/example/longpole/longpole/Span$Kind;"), (6, .class_ 31), (1, u "java/lang/Enum"), (28, .class_ 61), (0, u "com/example/longpole/longpole/Span")] 2

/-- com/example/longpole/longpole/Span$Kind -/
def k10 : Class := { plain "com/example/longpole/longpole/Span$Kind" (some 9) with
  accessFlags := 16432
  interfaces := #[]
  cf := some (fileOf pool10 1 #[.nestHost 60] #[] 16432 29 #[] #[{ accessFlags := 16409, nameIndex := 5, descriptorIndex := 6, attributes := #[] }, { accessFlags := 16409, nameIndex := 9, descriptorIndex := 6, attributes := #[] }, { accessFlags := 16409, nameIndex := 12, descriptorIndex := 6, attributes := #[] }, { accessFlags := 16409, nameIndex := 15, descriptorIndex := 6, attributes := #[] }, { accessFlags := 16409, nameIndex := 18, descriptorIndex := 6, attributes := #[] }, { accessFlags := 4122, nameIndex := 21, descriptorIndex := 22, attributes := #[] }])
  fields := #[{ name := "INTERNAL", type := (.object "com/example/longpole/longpole/Span$Kind"), accessFlags := 16409, slot := 0, constantValue := 0 }, { name := "CLIENT", type := (.object "com/example/longpole/longpole/Span$Kind"), accessFlags := 16409, slot := 1, constantValue := 0 }, { name := "SERVER", type := (.object "com/example/longpole/longpole/Span$Kind"), accessFlags := 16409, slot := 2, constantValue := 0 }, { name := "PRODUCER", type := (.object "com/example/longpole/longpole/Span$Kind"), accessFlags := 16409, slot := 3, constantValue := 0 }, { name := "CONSUMER", type := (.object "com/example/longpole/longpole/Span$Kind"), accessFlags := 16409, slot := 4, constantValue := 0 }, { name := "$VALUES", type := (.array (.object "com/example/longpole/longpole/Span$Kind")), accessFlags := 4122, slot := 5, constantValue := 0 }]
  methods := #[]
  instanceTypes := #[(.object "java/lang/String"), .int, .int]
  staticTypes := #[(.object "com/example/longpole/longpole/Span$Kind"), (.object "com/example/longpole/longpole/Span$Kind"), (.object "com/example/longpole/longpole/Span$Kind"), (.object "com/example/longpole/longpole/Span$Kind"), (.object "com/example/longpole/longpole/Span$Kind"), (.array (.object "com/example/longpole/longpole/Span$Kind"))]
  resolved := Array.replicate 64 none
  statics := some 1 }

def pool11 : Array CpInfo := pool [(1, .methodref 2 3), (0, .class_ 4), (0, .nameAndType 5 6), (0, u "java/lang/Object"), (0, u "<init>"), (0, u "()V"), (0, .class_ 8), (0, u "java/lang/Record")] 13

def k11c0 : Code := { maxStack := 1, maxLocals := 1, code := jdk_30_method_1_code, exceptionTable := #[], attributes := #[] }
def k11m0 : Method := { name := "<init>", desc := "()V", sig := { parameters := [], returnType := none }, accessFlags := 4, code := some k11c0 }
/-- java/lang/Record -/
def k11 : Class := { plain "java/lang/Record" (some 0) with
  accessFlags := 1057
  interfaces := #[]
  cf := some (fileOf pool11 7 #[] #[{ accessFlags := 4, nameIndex := 5, descriptorIndex := 6, attributes := #[] }] 1057 2 #[] #[])
  fields := #[]
  methods := #[k11m0]
  instanceTypes := #[]
  staticTypes := #[]
  resolved := Array.replicate 22 none
  statics := none }

def pool12 : Array CpInfo := pool [(1, .methodref 2 3), (0, .class_ 4), (0, .nameAndType 5 6), (0, u "java/lang/Record"), (0, u "<init>"), (0, u "()V"), (0, .fieldref 8 9), (0, .class_ 10), (0, .nameAndType 11 12), (0, u "com/example/longpole/longpole/Span"), (0, u "traceId"), (0, u "Ljava/lang/String;"), (0, .fieldref 8 14), (0, .nameAndType 15 12), (0, u "id"), (0, .fieldref 8 17), (0, .nameAndType 18 12), (0, u "parentId"), (0, .fieldref 8 20), (0, .nameAndType 21 22), (0, u "awaited"), (0, u "Z"), (0, .fieldref 8 24), (0, .nameAndType 25 26), (0, u "kind"), (0, u "Lcom/example/longpole/longpole/Span$Kind;"), (0, .fieldref 8 28), (0, .nameAndType 29 22), (0, u "shared"), (0, .fieldref 8 31), (0, .nameAndType 32 12), (0, u "service"), (0, .fieldref 8 34), (0, .nameAndType 35 12), (0, u "name"), (0, .fieldref 8 37), (0, .nameAndType 38 12), (0, u "remoteService"), (0, .fieldref 8 40), (0, .nameAndType 41 22), (0, u "hasTimestamp"), (0, .fieldref 8 43), (0, .nameAndType 44 45), (0, u "startMicros"), (0, u "J"), (0, .fieldref 8 47), (0, .nameAndType 48 45), (0, u "durationMicros"), (0, .methodref 8 50), (0, .nameAndType 5 51), (0, u "(Ljava/lang/String;Ljava/lang/String;Ljava/lang/String;ZLcom/example/longpole/longpole/Span$Kind;ZLjava/lang/String;Ljava/lang/String;Ljava/lang/String;ZJJ)V"), (1, .class_ 55), (1, u "com/example/longpole/longpole/Span$Kind"), (21, u "()J"), (2, u "withService"), (0, u "(Ljava/lang/String;)Lcom/example/longpole/longpole/Span;"), (3, u "()Ljava/lang/String;"), (2, u "()Z"), (0, u "()Lcom/example/longpole/longpole/Span$Kind;")] 33

def k12c0 : Code := { maxStack := 3, maxLocals := 15, code := prog_33_method_2_code, exceptionTable := #[], attributes := #[] }
def k12m0 : Method := { name := "<init>", desc := "(Ljava/lang/String;Ljava/lang/String;Ljava/lang/String;ZLcom/example/longpole/longpole/Span$Kind;ZLjava/lang/String;Ljava/lang/String;Ljava/lang/String;ZJJ)V", sig := { parameters := [(.object "java/lang/String"), (.object "java/lang/String"), (.object "java/lang/String"), .boolean, (.object "com/example/longpole/longpole/Span$Kind"), .boolean, (.object "java/lang/String"), (.object "java/lang/String"), (.object "java/lang/String"), .boolean, .long, .long], returnType := none }, accessFlags := 0, code := some k12c0 }
def k12c1 : Code := { maxStack := 16, maxLocals := 2, code := prog_33_method_5_code, exceptionTable := #[], attributes := #[] }
def k12m1 : Method := { name := "withService", desc := "(Ljava/lang/String;)Lcom/example/longpole/longpole/Span;", sig := { parameters := [(.object "java/lang/String")], returnType := some (.object "com/example/longpole/longpole/Span") }, accessFlags := 0, code := some k12c1 }
def k12c2 : Code := { maxStack := 1, maxLocals := 1, code := prog_33_method_10_code, exceptionTable := #[], attributes := #[] }
def k12m2 : Method := { name := "traceId", desc := "()Ljava/lang/String;", sig := { parameters := [], returnType := some (.object "java/lang/String") }, accessFlags := 1, code := some k12c2 }
def k12c3 : Code := { maxStack := 1, maxLocals := 1, code := prog_33_method_11_code, exceptionTable := #[], attributes := #[] }
def k12m3 : Method := { name := "id", desc := "()Ljava/lang/String;", sig := { parameters := [], returnType := some (.object "java/lang/String") }, accessFlags := 1, code := some k12c3 }
def k12c4 : Code := { maxStack := 1, maxLocals := 1, code := prog_33_method_12_code, exceptionTable := #[], attributes := #[] }
def k12m4 : Method := { name := "parentId", desc := "()Ljava/lang/String;", sig := { parameters := [], returnType := some (.object "java/lang/String") }, accessFlags := 1, code := some k12c4 }
def k12c5 : Code := { maxStack := 1, maxLocals := 1, code := prog_33_method_13_code, exceptionTable := #[], attributes := #[] }
def k12m5 : Method := { name := "awaited", desc := "()Z", sig := { parameters := [], returnType := some .boolean }, accessFlags := 1, code := some k12c5 }
def k12c6 : Code := { maxStack := 1, maxLocals := 1, code := prog_33_method_14_code, exceptionTable := #[], attributes := #[] }
def k12m6 : Method := { name := "kind", desc := "()Lcom/example/longpole/longpole/Span$Kind;", sig := { parameters := [], returnType := some (.object "com/example/longpole/longpole/Span$Kind") }, accessFlags := 1, code := some k12c6 }
def k12c7 : Code := { maxStack := 1, maxLocals := 1, code := prog_33_method_15_code, exceptionTable := #[], attributes := #[] }
def k12m7 : Method := { name := "shared", desc := "()Z", sig := { parameters := [], returnType := some .boolean }, accessFlags := 1, code := some k12c7 }
def k12c8 : Code := { maxStack := 1, maxLocals := 1, code := prog_33_method_16_code, exceptionTable := #[], attributes := #[] }
def k12m8 : Method := { name := "service", desc := "()Ljava/lang/String;", sig := { parameters := [], returnType := some (.object "java/lang/String") }, accessFlags := 1, code := some k12c8 }
def k12c9 : Code := { maxStack := 1, maxLocals := 1, code := prog_33_method_17_code, exceptionTable := #[], attributes := #[] }
def k12m9 : Method := { name := "name", desc := "()Ljava/lang/String;", sig := { parameters := [], returnType := some (.object "java/lang/String") }, accessFlags := 1, code := some k12c9 }
def k12c10 : Code := { maxStack := 1, maxLocals := 1, code := prog_33_method_18_code, exceptionTable := #[], attributes := #[] }
def k12m10 : Method := { name := "remoteService", desc := "()Ljava/lang/String;", sig := { parameters := [], returnType := some (.object "java/lang/String") }, accessFlags := 1, code := some k12c10 }
def k12c11 : Code := { maxStack := 1, maxLocals := 1, code := prog_33_method_19_code, exceptionTable := #[], attributes := #[] }
def k12m11 : Method := { name := "hasTimestamp", desc := "()Z", sig := { parameters := [], returnType := some .boolean }, accessFlags := 1, code := some k12c11 }
def k12c12 : Code := { maxStack := 2, maxLocals := 1, code := prog_33_method_20_code, exceptionTable := #[], attributes := #[] }
def k12m12 : Method := { name := "startMicros", desc := "()J", sig := { parameters := [], returnType := some .long }, accessFlags := 1, code := some k12c12 }
def k12c13 : Code := { maxStack := 2, maxLocals := 1, code := prog_33_method_21_code, exceptionTable := #[], attributes := #[] }
def k12m13 : Method := { name := "durationMicros", desc := "()J", sig := { parameters := [], returnType := some .long }, accessFlags := 1, code := some k12c13 }
/-- com/example/longpole/longpole/Span -/
def k12 : Class := { plain "com/example/longpole/longpole/Span" (some 11) with
  accessFlags := 48
  interfaces := #[]
  cf := some (fileOf pool12 8 #[.nestMembers #[53]] #[{ accessFlags := 0, nameIndex := 5, descriptorIndex := 51, attributes := #[] }, { accessFlags := 0, nameIndex := 80, descriptorIndex := 81, attributes := #[] }, { accessFlags := 1, nameIndex := 11, descriptorIndex := 85, attributes := #[] }, { accessFlags := 1, nameIndex := 15, descriptorIndex := 85, attributes := #[] }, { accessFlags := 1, nameIndex := 18, descriptorIndex := 85, attributes := #[] }, { accessFlags := 1, nameIndex := 21, descriptorIndex := 88, attributes := #[] }, { accessFlags := 1, nameIndex := 25, descriptorIndex := 89, attributes := #[] }, { accessFlags := 1, nameIndex := 29, descriptorIndex := 88, attributes := #[] }, { accessFlags := 1, nameIndex := 32, descriptorIndex := 85, attributes := #[] }, { accessFlags := 1, nameIndex := 35, descriptorIndex := 85, attributes := #[] }, { accessFlags := 1, nameIndex := 38, descriptorIndex := 85, attributes := #[] }, { accessFlags := 1, nameIndex := 41, descriptorIndex := 88, attributes := #[] }, { accessFlags := 1, nameIndex := 44, descriptorIndex := 77, attributes := #[] }, { accessFlags := 1, nameIndex := 48, descriptorIndex := 77, attributes := #[] }] 48 2 #[] #[{ accessFlags := 18, nameIndex := 11, descriptorIndex := 12, attributes := #[] }, { accessFlags := 18, nameIndex := 15, descriptorIndex := 12, attributes := #[] }, { accessFlags := 18, nameIndex := 18, descriptorIndex := 12, attributes := #[] }, { accessFlags := 18, nameIndex := 21, descriptorIndex := 22, attributes := #[] }, { accessFlags := 18, nameIndex := 25, descriptorIndex := 26, attributes := #[] }, { accessFlags := 18, nameIndex := 29, descriptorIndex := 22, attributes := #[] }, { accessFlags := 18, nameIndex := 32, descriptorIndex := 12, attributes := #[] }, { accessFlags := 18, nameIndex := 35, descriptorIndex := 12, attributes := #[] }, { accessFlags := 18, nameIndex := 38, descriptorIndex := 12, attributes := #[] }, { accessFlags := 18, nameIndex := 41, descriptorIndex := 22, attributes := #[] }, { accessFlags := 18, nameIndex := 44, descriptorIndex := 45, attributes := #[] }, { accessFlags := 18, nameIndex := 48, descriptorIndex := 45, attributes := #[] }])
  fields := #[{ name := "traceId", type := (.object "java/lang/String"), accessFlags := 18, slot := 0, constantValue := 0 }, { name := "id", type := (.object "java/lang/String"), accessFlags := 18, slot := 1, constantValue := 0 }, { name := "parentId", type := (.object "java/lang/String"), accessFlags := 18, slot := 2, constantValue := 0 }, { name := "awaited", type := .boolean, accessFlags := 18, slot := 3, constantValue := 0 }, { name := "kind", type := (.object "com/example/longpole/longpole/Span$Kind"), accessFlags := 18, slot := 4, constantValue := 0 }, { name := "shared", type := .boolean, accessFlags := 18, slot := 5, constantValue := 0 }, { name := "service", type := (.object "java/lang/String"), accessFlags := 18, slot := 6, constantValue := 0 }, { name := "name", type := (.object "java/lang/String"), accessFlags := 18, slot := 7, constantValue := 0 }, { name := "remoteService", type := (.object "java/lang/String"), accessFlags := 18, slot := 8, constantValue := 0 }, { name := "hasTimestamp", type := .boolean, accessFlags := 18, slot := 9, constantValue := 0 }, { name := "startMicros", type := .long, accessFlags := 18, slot := 10, constantValue := 0 }, { name := "durationMicros", type := .long, accessFlags := 18, slot := 11, constantValue := 0 }]
  methods := #[k12m0, k12m1, k12m2, k12m3, k12m4, k12m5, k12m6, k12m7, k12m8, k12m9, k12m10, k12m11, k12m12, k12m13]
  instanceTypes := #[(.object "java/lang/String"), (.object "java/lang/String"), (.object "java/lang/String"), .boolean, (.object "com/example/longpole/longpole/Span$Kind"), .boolean, (.object "java/lang/String"), (.object "java/lang/String"), (.object "java/lang/String"), .boolean, .long, .long]
  staticTypes := #[]
  resolved := Array.replicate 123 none
  statics := none }

def pool13 : Array CpInfo := pool [(2, .class_ 4), (1, u "java/lang/Object"), (0, u "<init>"), (0, u "()V"), (17, .class_ 26), (1, u "jdk/internal/util/Preconditions"), (28, .class_ 56), (0, u "jdk/internal/util/Preconditions$4"), (57, .class_ 115), (0, u "jdk/internal/util/Preconditions$1"), (7, u "SIOOBE_FORMATTER"), (0, u "Ljava/util/function/BiFunction;"), (0, .class_ 126), (0, u "jdk/internal/util/Preconditions$2"), (3, u "AIOOBE_FORMATTER"), (0, .class_ 132), (0, u "jdk/internal/util/Preconditions$3"), (3, u "IOOBE_FORMATTER")] 57

def k13m0 : Method := { name := "<init>", desc := "()V", sig := { parameters := [], returnType := none }, accessFlags := 1, code := none }
/-- jdk/internal/util/Preconditions -/
def k13 : Class := { plain "jdk/internal/util/Preconditions" (some 0) with
  accessFlags := 33
  interfaces := #[]
  cf := some (fileOf pool13 24 #[.nestMembers #[55, 131, 125, 114]] #[{ accessFlags := 1, nameIndex := 5, descriptorIndex := 6, attributes := #[] }] 33 2 #[] #[{ accessFlags := 25, nameIndex := 123, descriptorIndex := 124, attributes := #[] }, { accessFlags := 25, nameIndex := 130, descriptorIndex := 124, attributes := #[] }, { accessFlags := 25, nameIndex := 136, descriptorIndex := 124, attributes := #[] }])
  fields := #[{ name := "SIOOBE_FORMATTER", type := (.object "java/util/function/BiFunction"), accessFlags := 25, slot := 0, constantValue := 0 }, { name := "AIOOBE_FORMATTER", type := (.object "java/util/function/BiFunction"), accessFlags := 25, slot := 1, constantValue := 0 }, { name := "IOOBE_FORMATTER", type := (.object "java/util/function/BiFunction"), accessFlags := 25, slot := 2, constantValue := 0 }]
  methods := #[k13m0]
  instanceTypes := #[]
  staticTypes := #[(.object "java/util/function/BiFunction"), (.object "java/util/function/BiFunction"), (.object "java/util/function/BiFunction")]
  resolved := Array.replicate 194 none
  statics := some 2 }

def pool14 : Array CpInfo := pool [(9, u "<init>"), (6, .class_ 18), (1, u "java/lang/Object"), (0, u "()V"), (1, .class_ 23), (1, u "jdk/internal/util/ArraysSupport"), (0, u "LOG2_ARRAY_LONG_INDEX_SCALE"), (0, u "I"), (2, u "U"), (0, u "Ljdk/internal/misc/Unsafe;"), (8, u "BIG_ENDIAN"), (0, u "Z"), (8, u "LOG2_BYTE_BIT_SIZE"), (4, u "LOG2_ARRAY_INT_INDEX_SCALE"), (54, u "JLA"), (0, u "Ljdk/internal/access/JavaLangAccess;"), (11, u "LOG2_ARRAY_BOOLEAN_INDEX_SCALE"), (9, u "LOG2_ARRAY_BYTE_INDEX_SCALE"), (5, u "LOG2_ARRAY_CHAR_INDEX_SCALE"), (5, u "LOG2_ARRAY_SHORT_INDEX_SCALE"), (18, u "LOG2_ARRAY_FLOAT_INDEX_SCALE"), (24, u "LOG2_ARRAY_DOUBLE_INDEX_SCALE"), (89, u "T_BOOLEAN"), (2, u "T_CHAR"), (1, u "T_FLOAT"), (1, u "T_DOUBLE"), (1, u "T_BYTE"), (1, u "T_SHORT"), (1, u "T_INT"), (1, u "T_LONG"), (1, u "SOFT_MAX_ARRAY_LENGTH")] 83

def k14m0 : Method := { name := "<init>", desc := "()V", sig := { parameters := [], returnType := none }, accessFlags := 2, code := none }
/-- jdk/internal/util/ArraysSupport -/
def k14 : Class := { plain "jdk/internal/util/ArraysSupport" (some 0) with
  accessFlags := 33
  interfaces := #[]
  cf := some (fileOf pool14 21 #[] #[{ accessFlags := 2, nameIndex := 9, descriptorIndex := 19, attributes := #[] }] 33 16 #[] #[{ accessFlags := 24, nameIndex := 28, descriptorIndex := 29, attributes := #[] }, { accessFlags := 26, nameIndex := 38, descriptorIndex := 39, attributes := #[] }, { accessFlags := 25, nameIndex := 121, descriptorIndex := 25, attributes := #[] }, { accessFlags := 25, nameIndex := 131, descriptorIndex := 25, attributes := #[] }, { accessFlags := 25, nameIndex := 137, descriptorIndex := 25, attributes := #[] }, { accessFlags := 25, nameIndex := 143, descriptorIndex := 25, attributes := #[] }, { accessFlags := 25, nameIndex := 53, descriptorIndex := 25, attributes := #[] }, { accessFlags := 25, nameIndex := 24, descriptorIndex := 25, attributes := #[] }, { accessFlags := 25, nameIndex := 162, descriptorIndex := 25, attributes := #[] }, { accessFlags := 25, nameIndex := 187, descriptorIndex := 25, attributes := #[] }, { accessFlags := 26, nameIndex := 48, descriptorIndex := 25, attributes := #[] }, { accessFlags := 25, nameIndex := 277, descriptorIndex := 25, attributes := #[] }, { accessFlags := 25, nameIndex := 280, descriptorIndex := 25, attributes := #[] }, { accessFlags := 25, nameIndex := 282, descriptorIndex := 25, attributes := #[] }, { accessFlags := 25, nameIndex := 284, descriptorIndex := 25, attributes := #[] }, { accessFlags := 25, nameIndex := 286, descriptorIndex := 25, attributes := #[] }, { accessFlags := 25, nameIndex := 288, descriptorIndex := 25, attributes := #[] }, { accessFlags := 25, nameIndex := 290, descriptorIndex := 25, attributes := #[] }, { accessFlags := 25, nameIndex := 292, descriptorIndex := 25, attributes := #[] }, { accessFlags := 26, nameIndex := 108, descriptorIndex := 109, attributes := #[] }, { accessFlags := 25, nameIndex := 294, descriptorIndex := 25, attributes := #[] }])
  fields := #[{ name := "U", type := (.object "jdk/internal/misc/Unsafe"), accessFlags := 24, slot := 0, constantValue := 0 }, { name := "BIG_ENDIAN", type := .boolean, accessFlags := 26, slot := 1, constantValue := 0 }, { name := "LOG2_ARRAY_BOOLEAN_INDEX_SCALE", type := .int, accessFlags := 25, slot := 2, constantValue := 0 }, { name := "LOG2_ARRAY_BYTE_INDEX_SCALE", type := .int, accessFlags := 25, slot := 3, constantValue := 0 }, { name := "LOG2_ARRAY_CHAR_INDEX_SCALE", type := .int, accessFlags := 25, slot := 4, constantValue := 0 }, { name := "LOG2_ARRAY_SHORT_INDEX_SCALE", type := .int, accessFlags := 25, slot := 5, constantValue := 0 }, { name := "LOG2_ARRAY_INT_INDEX_SCALE", type := .int, accessFlags := 25, slot := 6, constantValue := 0 }, { name := "LOG2_ARRAY_LONG_INDEX_SCALE", type := .int, accessFlags := 25, slot := 7, constantValue := 0 }, { name := "LOG2_ARRAY_FLOAT_INDEX_SCALE", type := .int, accessFlags := 25, slot := 8, constantValue := 0 }, { name := "LOG2_ARRAY_DOUBLE_INDEX_SCALE", type := .int, accessFlags := 25, slot := 9, constantValue := 0 }, { name := "LOG2_BYTE_BIT_SIZE", type := .int, accessFlags := 26, slot := 10, constantValue := 0 }, { name := "T_BOOLEAN", type := .int, accessFlags := 25, slot := 11, constantValue := 0 }, { name := "T_CHAR", type := .int, accessFlags := 25, slot := 12, constantValue := 0 }, { name := "T_FLOAT", type := .int, accessFlags := 25, slot := 13, constantValue := 0 }, { name := "T_DOUBLE", type := .int, accessFlags := 25, slot := 14, constantValue := 0 }, { name := "T_BYTE", type := .int, accessFlags := 25, slot := 15, constantValue := 0 }, { name := "T_SHORT", type := .int, accessFlags := 25, slot := 16, constantValue := 0 }, { name := "T_INT", type := .int, accessFlags := 25, slot := 17, constantValue := 0 }, { name := "T_LONG", type := .int, accessFlags := 25, slot := 18, constantValue := 0 }, { name := "JLA", type := (.object "jdk/internal/access/JavaLangAccess"), accessFlags := 26, slot := 19, constantValue := 0 }, { name := "SOFT_MAX_ARRAY_LENGTH", type := .int, accessFlags := 25, slot := 20, constantValue := 0 }]
  methods := #[k14m0]
  instanceTypes := #[]
  staticTypes := #[(.object "jdk/internal/misc/Unsafe"), .boolean, .int, .int, .int, .int, .int, .int, .int, .int, .int, .int, .int, .int, .int, .int, .int, .int, .int, (.object "jdk/internal/access/JavaLangAccess"), .int]
  resolved := Array.replicate 378 none
  statics := none }

def pool15 : Array CpInfo := pool [(1, u "java/lang/Cloneable"), (0, .class_ 1), (0, u "java/lang/Object"), (0, .class_ 3)] 3

/-- java/lang/Cloneable -/
def k15 : Class := { plain "java/lang/Cloneable" (some 0) with
  accessFlags := 1537
  interfaces := #[]
  cf := some (fileOf pool15 2 #[] #[] 1537 4 #[] #[])
  fields := #[]
  methods := #[]
  instanceTypes := #[]
  staticTypes := #[]
  resolved := Array.replicate 8 none
  statics := none }

/-- the primitive byte -/
def k16 : Class := { plain "byte" none with kind := .primitive 'B', accessFlags := 0x411 }
/-- [B -/
def k17 : Class := { plain "[B" (some 0) with kind := .array 16 .byte, interfaces := #[15, 2], accessFlags := 1041 }

/-- the primitive int -/
def k18 : Class := { plain "int" none with kind := .primitive 'I', accessFlags := 0x411 }
/-- [I -/
def k19 : Class := { plain "[I" (some 0) with kind := .array 18 .int, interfaces := #[15, 2], accessFlags := 1041 }

def heap : Heap := #[{ cls := 7, slots := #[.long 0, .int 1, .null, .int 0, .null, .int 0, .int 0], vm := .statics 7 },
  { cls := 10, slots := #[.ref 3, .ref 4, .ref 7, .ref 5, .ref 6, .null], vm := .statics 10 },
  { cls := 13, slots := #[.null, .null, .null], vm := .statics 13 },
  { cls := 10, slots := #[.null, .int 0, .int 0], vm := .none },
  { cls := 10, slots := #[.null, .int 0, .int 0], vm := .none },
  { cls := 10, slots := #[.null, .int 0, .int 0], vm := .none },
  { cls := 10, slots := #[.null, .int 0, .int 0], vm := .none },
  { cls := 10, slots := #[.null, .int 0, .int 0], vm := .none }]
def classes : Array Class := #[k0, k1, k2, k3, k4, k5, k6, k7, k8, k9, k10, k11, k12, k13, k14, k15, k16, k17, k18, k19]
def interned : List (Array UInt16 × Addr) := []
def slotsUsed : Nat := 31
def theMethod : MethodId := ⟨1, 3⟩
def args0 : Array Value := #[.int 1, .int 2, .int 3, .long 4, .long 5]
def aboutOver (below : List Frame) : State where
  vm := { classes := classes, interned := interned.toArray }
  heap := heap
  slotsUsed := slotsUsed
  threads := #[{ frames := .invoking theMethod args0 :: below }]
def below0 : List Frame := [.native { method := ⟨0, 0⟩, args := #[] }]
def about1 : State := aboutOver below0
def p0 : Program := .bare "" "" ""
def e0 : Env := launch0.env 0 0 0
theorem w_frames : about1.frames = Frame.invoking theMethod args0 :: below0 := rfl
set_option maxRecDepth 65536 in
theorem w_args : argsFit about1.vm theMethod args0 = true := by decide +kernel
set_option maxRecDepth 65536 in
theorem w_heap : heapFits about1 = true := by decide +kernel
set_option maxRecDepth 65536 in
theorem w_runnable : about1.curStatus? = some .runnable := by decide +kernel
set_option maxRecDepth 65536 in
theorem w_alone : about1.alone = true := by decide +kernel
set_option maxRecDepth 65536 in
theorem w_named : about1.methodNamed? x = some theMethod := by decide +kernel
set_option maxRecDepth 65536 in
theorem w_hears : about1.hears theMethod below0 = true := by decide +kernel
set_option maxRecDepth 65536 in
theorem w_ripe : about1.ripe theMethod args0 below0 = true := by decide +kernel
theorem w_running : about1.status = .running := rfl
set_option maxRecDepth 65536 in
theorem w_room : about1.hasRoom e0.platform room_1 = true :=
  launch0.hasRoom_least _ room_1 (by decide +kernel) (by decide +kernel) (by decide +kernel) (by decide +kernel) (by decide +kernel) (by decide +kernel)
theorem allAtoms_all (ts : List Jvm.Cond) (a : Array Jvm.Value) (st : Jvm.State) : (allAtoms ts).before a st = ts.all (fun c => c.before a st) := by
  induction ts with
  | nil => rfl
  | cons c t ih =>
    show (Jvm.Cond.and c (allAtoms t)).before a st = _
    rw [Jvm.Cond.before_and, ih, List.all_cons]
def words1 : List Jvm.Cond := Jvm.Cond.code x code maxLocals ret :: tables_1
/-- a 'code' word, met by the world's own term for the bytes: nothing is compared byte by byte -/
theorem code_word {y : MethodName} {bytes : ByteArray} {mx : Nat} {rt : Option FieldType} {a : Array Value} {s : State} {m : MethodId} {meth : Method} {c : Code} (h1 : s.methodNamed? y = some m) (h2 : s.vm.method? m = some meth) (h3 : meth.code = some c) (h4 : c.code = bytes)
    (h5 : (c.maxLocals == mx && c.exceptionTable.isEmpty && decide (c.maxStack ≤ mostOperands) && decide (meth.sig.returnType = rt) && !meth.locks && decide (parseMethodDescriptor y.desc = some meth.sig)) = true) : (Jvm.Cond.code y bytes mx rt).before a s = true := by
  simp only [Bool.and_eq_true, beq_iff_eq, Bool.not_eq_true', decide_eq_true_eq] at h5
  obtain ⟨⟨⟨⟨⟨g1, g2⟩, g3⟩, g4⟩, g5⟩, g6⟩ := h5
  simp [Cond.before, Cond.holds, Cond.value, h1, h2, h3, h4, g1, g2, g3, g4, g5, g6]
def isCode : Jvm.Cond → Bool
  | .code _ _ _ _ => true
  | _ => false
theorem all_split {L : List Jvm.Cond} {P : Jvm.Cond → Bool} (h1 : L.all (fun c => isCode c || P c) = true) (h2 : ∀ c ∈ L.filter isCode, P c = true) : L.all P = true := by
  refine List.all_eq_true.mpr fun c hc => ?_
  have h := List.all_eq_true.mp h1 c hc
  rcases Bool.eq_false_or_eq_true (isCode c) with hi | hi
  · exact h2 c (List.mem_filter.mpr ⟨hc, hi⟩)
  · simpa [hi] using h
set_option maxRecDepth 65536 in
theorem w_c0 : (Jvm.Cond.code x code maxLocals ret).before args0 about1 = true := code_word (m := ⟨1, 3⟩) (meth := k1m3) (c := k1c3) (by decide +kernel) rfl rfl rfl (by decide +kernel)
set_option maxRecDepth 65536 in
theorem w_c1 : (Jvm.Cond.code ({ cls := "com/example/longpole/longpole/SpanWithServicePinLaw", name := "str", desc := "(II)Ljava/lang/String;" } : Jvm.MethodName) method_2_code (2 : Nat) (Option.some (Jvm.ClassFile.FieldType.object "java/lang/String"))).before args0 about1 = true := code_word (m := ⟨1, 1⟩) (meth := k1m1) (c := k1c1) (by decide +kernel) rfl rfl rfl (by decide +kernel)
set_option maxRecDepth 65536 in
theorem w_c2 : (Jvm.Cond.code ({ cls := "java/lang/String", name := "valueOf", desc := "(C)Ljava/lang/String;" } : Jvm.MethodName) jdk_42_method_139_code (1 : Nat) (Option.some (Jvm.ClassFile.FieldType.object "java/lang/String"))).before args0 about1 = true := code_word (m := ⟨7, 1⟩) (meth := k7m1) (c := k7c1) (by decide +kernel) rfl rfl rfl (by decide +kernel)
set_option maxRecDepth 65536 in
theorem w_c3 : (Jvm.Cond.code ({ cls := "java/lang/StringLatin1", name := "canEncode", desc := "(C)Z" } : Jvm.MethodName) jdk_43_method_3_code (1 : Nat) (Option.some Jvm.ClassFile.FieldType.boolean)).before args0 about1 = true := code_word (m := ⟨8, 1⟩) (meth := k8m1) (c := k8c1) (by decide +kernel) rfl rfl rfl (by decide +kernel)
set_option maxRecDepth 65536 in
theorem w_c4 : (Jvm.Cond.code ({ cls := "java/lang/StringLatin1", name := "toBytes", desc := "(C)[B" } : Jvm.MethodName) jdk_43_method_46_code (1 : Nat) (Option.some (Jvm.ClassFile.FieldType.array Jvm.ClassFile.FieldType.byte))).before args0 about1 = true := code_word (m := ⟨8, 2⟩) (meth := k8m2) (c := k8c2) (by decide +kernel) rfl rfl rfl (by decide +kernel)
set_option maxRecDepth 65536 in
theorem w_c5 : (Jvm.Cond.code ({ cls := "java/lang/String", name := "<init>", desc := "([BB)V" } : Jvm.MethodName) jdk_42_method_151_code (3 : Nat) (Option.none : Option Jvm.ClassFile.FieldType)).before args0 about1 = true := code_word (m := ⟨7, 2⟩) (meth := k7m2) (c := k7c2) (by decide +kernel) rfl rfl rfl (by decide +kernel)
set_option maxRecDepth 65536 in
theorem w_c6 : (Jvm.Cond.code ({ cls := "java/lang/Object", name := "<init>", desc := "()V" } : Jvm.MethodName) object_method_1_code (1 : Nat) (Option.none : Option Jvm.ClassFile.FieldType)).before args0 about1 = true := code_word (m := ⟨0, 0⟩) (meth := k0m0) (c := k0c0) (by decide +kernel) rfl rfl rfl (by decide +kernel)
set_option maxRecDepth 65536 in
theorem w_c7 : (Jvm.Cond.code ({ cls := "com/example/longpole/longpole/SpanWithServicePinLaw", name := "kind", desc := "(I)Lcom/example/longpole/longpole/Span$Kind;" } : Jvm.MethodName) method_3_code (1 : Nat) (Option.some (Jvm.ClassFile.FieldType.object "com/example/longpole/longpole/Span$Kind"))).before args0 about1 = true := code_word (m := ⟨1, 2⟩) (meth := k1m2) (c := k1c2) (by decide +kernel) rfl rfl rfl (by decide +kernel)
set_option maxRecDepth 65536 in
theorem w_c8 : (Jvm.Cond.code ({ cls := "com/example/longpole/longpole/Span", name := "<init>", desc := "(Ljava/lang/String;Ljava/lang/String;Ljava/lang/String;ZLcom/example/longpole/longpole/Span$Kind;ZLjava/lang/String;Ljava/lang/String;Ljava/lang/String;ZJJ)V" } : Jvm.MethodName) prog_33_method_2_code (15 : Nat) (Option.none : Option Jvm.ClassFile.FieldType)).before args0 about1 = true := code_word (m := ⟨12, 0⟩) (meth := k12m0) (c := k12c0) (by decide +kernel) rfl rfl rfl (by decide +kernel)
set_option maxRecDepth 65536 in
theorem w_c9 : (Jvm.Cond.code ({ cls := "java/lang/Record", name := "<init>", desc := "()V" } : Jvm.MethodName) jdk_30_method_1_code (1 : Nat) (Option.none : Option Jvm.ClassFile.FieldType)).before args0 about1 = true := code_word (m := ⟨11, 0⟩) (meth := k11m0) (c := k11c0) (by decide +kernel) rfl rfl rfl (by decide +kernel)
set_option maxRecDepth 65536 in
theorem w_c10 : (Jvm.Cond.code ({ cls := "com/example/longpole/longpole/Span", name := "withService", desc := "(Ljava/lang/String;)Lcom/example/longpole/longpole/Span;" } : Jvm.MethodName) prog_33_method_5_code (2 : Nat) (Option.some (Jvm.ClassFile.FieldType.object "com/example/longpole/longpole/Span"))).before args0 about1 = true := code_word (m := ⟨12, 1⟩) (meth := k12m1) (c := k12c1) (by decide +kernel) rfl rfl rfl (by decide +kernel)
set_option maxRecDepth 65536 in
theorem w_c11 : (Jvm.Cond.code ({ cls := "com/example/longpole/longpole/Span", name := "traceId", desc := "()Ljava/lang/String;" } : Jvm.MethodName) prog_33_method_10_code (1 : Nat) (Option.some (Jvm.ClassFile.FieldType.object "java/lang/String"))).before args0 about1 = true := code_word (m := ⟨12, 2⟩) (meth := k12m2) (c := k12c2) (by decide +kernel) rfl rfl rfl (by decide +kernel)
set_option maxRecDepth 65536 in
theorem w_c12 : (Jvm.Cond.code ({ cls := "com/example/longpole/longpole/Span", name := "id", desc := "()Ljava/lang/String;" } : Jvm.MethodName) prog_33_method_11_code (1 : Nat) (Option.some (Jvm.ClassFile.FieldType.object "java/lang/String"))).before args0 about1 = true := code_word (m := ⟨12, 3⟩) (meth := k12m3) (c := k12c3) (by decide +kernel) rfl rfl rfl (by decide +kernel)
set_option maxRecDepth 65536 in
theorem w_c13 : (Jvm.Cond.code ({ cls := "com/example/longpole/longpole/Span", name := "parentId", desc := "()Ljava/lang/String;" } : Jvm.MethodName) prog_33_method_12_code (1 : Nat) (Option.some (Jvm.ClassFile.FieldType.object "java/lang/String"))).before args0 about1 = true := code_word (m := ⟨12, 4⟩) (meth := k12m4) (c := k12c4) (by decide +kernel) rfl rfl rfl (by decide +kernel)
set_option maxRecDepth 65536 in
theorem w_c14 : (Jvm.Cond.code ({ cls := "com/example/longpole/longpole/Span", name := "awaited", desc := "()Z" } : Jvm.MethodName) prog_33_method_13_code (1 : Nat) (Option.some Jvm.ClassFile.FieldType.boolean)).before args0 about1 = true := code_word (m := ⟨12, 5⟩) (meth := k12m5) (c := k12c5) (by decide +kernel) rfl rfl rfl (by decide +kernel)
set_option maxRecDepth 65536 in
theorem w_c15 : (Jvm.Cond.code ({ cls := "com/example/longpole/longpole/Span", name := "kind", desc := "()Lcom/example/longpole/longpole/Span$Kind;" } : Jvm.MethodName) prog_33_method_14_code (1 : Nat) (Option.some (Jvm.ClassFile.FieldType.object "com/example/longpole/longpole/Span$Kind"))).before args0 about1 = true := code_word (m := ⟨12, 6⟩) (meth := k12m6) (c := k12c6) (by decide +kernel) rfl rfl rfl (by decide +kernel)
set_option maxRecDepth 65536 in
theorem w_c16 : (Jvm.Cond.code ({ cls := "com/example/longpole/longpole/Span", name := "shared", desc := "()Z" } : Jvm.MethodName) prog_33_method_15_code (1 : Nat) (Option.some Jvm.ClassFile.FieldType.boolean)).before args0 about1 = true := code_word (m := ⟨12, 7⟩) (meth := k12m7) (c := k12c7) (by decide +kernel) rfl rfl rfl (by decide +kernel)
set_option maxRecDepth 65536 in
theorem w_c17 : (Jvm.Cond.code ({ cls := "com/example/longpole/longpole/Span", name := "service", desc := "()Ljava/lang/String;" } : Jvm.MethodName) prog_33_method_16_code (1 : Nat) (Option.some (Jvm.ClassFile.FieldType.object "java/lang/String"))).before args0 about1 = true := code_word (m := ⟨12, 8⟩) (meth := k12m8) (c := k12c8) (by decide +kernel) rfl rfl rfl (by decide +kernel)
set_option maxRecDepth 65536 in
theorem w_c18 : (Jvm.Cond.code ({ cls := "com/example/longpole/longpole/Span", name := "name", desc := "()Ljava/lang/String;" } : Jvm.MethodName) prog_33_method_17_code (1 : Nat) (Option.some (Jvm.ClassFile.FieldType.object "java/lang/String"))).before args0 about1 = true := code_word (m := ⟨12, 9⟩) (meth := k12m9) (c := k12c9) (by decide +kernel) rfl rfl rfl (by decide +kernel)
set_option maxRecDepth 65536 in
theorem w_c19 : (Jvm.Cond.code ({ cls := "com/example/longpole/longpole/Span", name := "remoteService", desc := "()Ljava/lang/String;" } : Jvm.MethodName) prog_33_method_18_code (1 : Nat) (Option.some (Jvm.ClassFile.FieldType.object "java/lang/String"))).before args0 about1 = true := code_word (m := ⟨12, 10⟩) (meth := k12m10) (c := k12c10) (by decide +kernel) rfl rfl rfl (by decide +kernel)
set_option maxRecDepth 65536 in
theorem w_c20 : (Jvm.Cond.code ({ cls := "com/example/longpole/longpole/Span", name := "hasTimestamp", desc := "()Z" } : Jvm.MethodName) prog_33_method_19_code (1 : Nat) (Option.some Jvm.ClassFile.FieldType.boolean)).before args0 about1 = true := code_word (m := ⟨12, 11⟩) (meth := k12m11) (c := k12c11) (by decide +kernel) rfl rfl rfl (by decide +kernel)
set_option maxRecDepth 65536 in
theorem w_c21 : (Jvm.Cond.code ({ cls := "com/example/longpole/longpole/Span", name := "startMicros", desc := "()J" } : Jvm.MethodName) prog_33_method_20_code (1 : Nat) (Option.some Jvm.ClassFile.FieldType.long)).before args0 about1 = true := code_word (m := ⟨12, 12⟩) (meth := k12m12) (c := k12c12) (by decide +kernel) rfl rfl rfl (by decide +kernel)
set_option maxRecDepth 65536 in
theorem w_c22 : (Jvm.Cond.code ({ cls := "com/example/longpole/longpole/Span", name := "durationMicros", desc := "()J" } : Jvm.MethodName) prog_33_method_21_code (1 : Nat) (Option.some Jvm.ClassFile.FieldType.long)).before args0 about1 = true := code_word (m := ⟨12, 13⟩) (meth := k12m13) (c := k12c13) (by decide +kernel) rfl rfl rfl (by decide +kernel)
def codes1 : List Jvm.Cond := [Jvm.Cond.code x code maxLocals ret, Jvm.Cond.code ({ cls := "com/example/longpole/longpole/SpanWithServicePinLaw", name := "str", desc := "(II)Ljava/lang/String;" } : Jvm.MethodName) method_2_code (2 : Nat) (Option.some (Jvm.ClassFile.FieldType.object "java/lang/String")), Jvm.Cond.code ({ cls := "java/lang/String", name := "valueOf", desc := "(C)Ljava/lang/String;" } : Jvm.MethodName) jdk_42_method_139_code (1 : Nat) (Option.some (Jvm.ClassFile.FieldType.object "java/lang/String")), Jvm.Cond.code ({ cls := "java/lang/StringLatin1", name := "canEncode", desc := "(C)Z" } : Jvm.MethodName) jdk_43_method_3_code (1 : Nat) (Option.some Jvm.ClassFile.FieldType.boolean), Jvm.Cond.code ({ cls := "java/lang/StringLatin1", name := "toBytes", desc := "(C)[B" } : Jvm.MethodName) jdk_43_method_46_code (1 : Nat) (Option.some (Jvm.ClassFile.FieldType.array Jvm.ClassFile.FieldType.byte)), Jvm.Cond.code ({ cls := "java/lang/String", name := "<init>", desc := "([BB)V" } : Jvm.MethodName) jdk_42_method_151_code (3 : Nat) (Option.none : Option Jvm.ClassFile.FieldType), Jvm.Cond.code ({ cls := "java/lang/Object", name := "<init>", desc := "()V" } : Jvm.MethodName) object_method_1_code (1 : Nat) (Option.none : Option Jvm.ClassFile.FieldType), Jvm.Cond.code ({ cls := "com/example/longpole/longpole/SpanWithServicePinLaw", name := "kind", desc := "(I)Lcom/example/longpole/longpole/Span$Kind;" } : Jvm.MethodName) method_3_code (1 : Nat) (Option.some (Jvm.ClassFile.FieldType.object "com/example/longpole/longpole/Span$Kind")), Jvm.Cond.code ({ cls := "com/example/longpole/longpole/Span", name := "<init>", desc := "(Ljava/lang/String;Ljava/lang/String;Ljava/lang/String;ZLcom/example/longpole/longpole/Span$Kind;ZLjava/lang/String;Ljava/lang/String;Ljava/lang/String;ZJJ)V" } : Jvm.MethodName) prog_33_method_2_code (15 : Nat) (Option.none : Option Jvm.ClassFile.FieldType), Jvm.Cond.code ({ cls := "java/lang/Record", name := "<init>", desc := "()V" } : Jvm.MethodName) jdk_30_method_1_code (1 : Nat) (Option.none : Option Jvm.ClassFile.FieldType), Jvm.Cond.code ({ cls := "com/example/longpole/longpole/Span", name := "withService", desc := "(Ljava/lang/String;)Lcom/example/longpole/longpole/Span;" } : Jvm.MethodName) prog_33_method_5_code (2 : Nat) (Option.some (Jvm.ClassFile.FieldType.object "com/example/longpole/longpole/Span")), Jvm.Cond.code ({ cls := "com/example/longpole/longpole/Span", name := "traceId", desc := "()Ljava/lang/String;" } : Jvm.MethodName) prog_33_method_10_code (1 : Nat) (Option.some (Jvm.ClassFile.FieldType.object "java/lang/String")), Jvm.Cond.code ({ cls := "com/example/longpole/longpole/Span", name := "id", desc := "()Ljava/lang/String;" } : Jvm.MethodName) prog_33_method_11_code (1 : Nat) (Option.some (Jvm.ClassFile.FieldType.object "java/lang/String")), Jvm.Cond.code ({ cls := "com/example/longpole/longpole/Span", name := "parentId", desc := "()Ljava/lang/String;" } : Jvm.MethodName) prog_33_method_12_code (1 : Nat) (Option.some (Jvm.ClassFile.FieldType.object "java/lang/String")), Jvm.Cond.code ({ cls := "com/example/longpole/longpole/Span", name := "awaited", desc := "()Z" } : Jvm.MethodName) prog_33_method_13_code (1 : Nat) (Option.some Jvm.ClassFile.FieldType.boolean), Jvm.Cond.code ({ cls := "com/example/longpole/longpole/Span", name := "kind", desc := "()Lcom/example/longpole/longpole/Span$Kind;" } : Jvm.MethodName) prog_33_method_14_code (1 : Nat) (Option.some (Jvm.ClassFile.FieldType.object "com/example/longpole/longpole/Span$Kind")), Jvm.Cond.code ({ cls := "com/example/longpole/longpole/Span", name := "shared", desc := "()Z" } : Jvm.MethodName) prog_33_method_15_code (1 : Nat) (Option.some Jvm.ClassFile.FieldType.boolean), Jvm.Cond.code ({ cls := "com/example/longpole/longpole/Span", name := "service", desc := "()Ljava/lang/String;" } : Jvm.MethodName) prog_33_method_16_code (1 : Nat) (Option.some (Jvm.ClassFile.FieldType.object "java/lang/String")), Jvm.Cond.code ({ cls := "com/example/longpole/longpole/Span", name := "name", desc := "()Ljava/lang/String;" } : Jvm.MethodName) prog_33_method_17_code (1 : Nat) (Option.some (Jvm.ClassFile.FieldType.object "java/lang/String")), Jvm.Cond.code ({ cls := "com/example/longpole/longpole/Span", name := "remoteService", desc := "()Ljava/lang/String;" } : Jvm.MethodName) prog_33_method_18_code (1 : Nat) (Option.some (Jvm.ClassFile.FieldType.object "java/lang/String")), Jvm.Cond.code ({ cls := "com/example/longpole/longpole/Span", name := "hasTimestamp", desc := "()Z" } : Jvm.MethodName) prog_33_method_19_code (1 : Nat) (Option.some Jvm.ClassFile.FieldType.boolean), Jvm.Cond.code ({ cls := "com/example/longpole/longpole/Span", name := "startMicros", desc := "()J" } : Jvm.MethodName) prog_33_method_20_code (1 : Nat) (Option.some Jvm.ClassFile.FieldType.long), Jvm.Cond.code ({ cls := "com/example/longpole/longpole/Span", name := "durationMicros", desc := "()J" } : Jvm.MethodName) prog_33_method_21_code (1 : Nat) (Option.some Jvm.ClassFile.FieldType.long)]
set_option maxRecDepth 65536 in
theorem codes_eq : words1.filter isCode = codes1 := rfl
theorem w_codes : ∀ c ∈ words1.filter isCode, c.before args0 about1 = true := by
  rw [codes_eq]
  intro c hc
  simp only [codes1, List.mem_cons, List.not_mem_nil, or_false] at hc
  rcases hc with rfl | rfl | rfl | rfl | rfl | rfl | rfl | rfl | rfl | rfl | rfl | rfl | rfl | rfl | rfl | rfl | rfl | rfl | rfl | rfl | rfl | rfl | rfl
  · exact w_c0
  · exact w_c1
  · exact w_c2
  · exact w_c3
  · exact w_c4
  · exact w_c5
  · exact w_c6
  · exact w_c7
  · exact w_c8
  · exact w_c9
  · exact w_c10
  · exact w_c11
  · exact w_c12
  · exact w_c13
  · exact w_c14
  · exact w_c15
  · exact w_c16
  · exact w_c17
  · exact w_c18
  · exact w_c19
  · exact w_c20
  · exact w_c21
  · exact w_c22
set_option maxRecDepth 65536 in
theorem w_t1 : (words1.take 24).all (fun c => isCode c || c.before args0 about1) = true := by decide +kernel
set_option maxRecDepth 65536 in
theorem w_t2 : ((words1.drop 24).take 24).all (fun c => isCode c || c.before args0 about1) = true := by decide +kernel
set_option maxRecDepth 65536 in
theorem w_t3 : (((words1.drop 24).drop 24).take 24).all (fun c => isCode c || c.before args0 about1) = true := by decide +kernel
set_option maxRecDepth 65536 in
theorem w_t4 : ((((words1.drop 24).drop 24).drop 24).take 24).all (fun c => isCode c || c.before args0 about1) = true := by decide +kernel
set_option maxRecDepth 65536 in
theorem w_t5 : (((((words1.drop 24).drop 24).drop 24).drop 24).take 24).all (fun c => isCode c || c.before args0 about1) = true := by decide +kernel
set_option maxRecDepth 65536 in
theorem w_t6 : ((((((words1.drop 24).drop 24).drop 24).drop 24).drop 24).take 24).all (fun c => isCode c || c.before args0 about1) = true := by decide +kernel
set_option maxRecDepth 65536 in
theorem w_t7 : ((((((words1.drop 24).drop 24).drop 24).drop 24).drop 24).drop 24).all (fun c => isCode c || c.before args0 about1) = true := by decide +kernel
theorem w_tables : (allAtoms (Jvm.Cond.code x code maxLocals ret :: tables_1)).before args0 about1 = true := by
  rw [allAtoms_all]
  show words1.all (fun c => c.before args0 about1) = true
  refine all_split ?_ w_codes
  rw [← List.take_append_drop 24 words1, List.all_append, w_t1, ← List.take_append_drop 24 (words1.drop 24), List.all_append, w_t2, ← List.take_append_drop 24 ((words1.drop 24).drop 24), List.all_append, w_t3, ← List.take_append_drop 24 (((words1.drop 24).drop 24).drop 24), List.all_append, w_t4, ← List.take_append_drop 24 ((((words1.drop 24).drop 24).drop 24).drop 24), List.all_append, w_t5, ← List.take_append_drop 24 (((((words1.drop 24).drop 24).drop 24).drop 24).drop 24), List.all_append, w_t6, w_t7]
  rfl
set_option maxRecDepth 65536 in
theorem w_rest : rest_1_c.before args0 about1 = true := by decide +kernel
set_option maxRecDepth 65536 in
theorem w_case : (Jvm.Cond.and given_1 narrow_1).before args0 about1 = true := by decide +kernel
theorem w_applies : (headSpec (Jvm.Cond.code x code maxLocals ret :: tables_1) room_1).applies x e0.platform about1 = true :=
  (Spec.applies_iff w_frames).mpr ⟨w_running, w_runnable, w_alone, w_named, w_hears, w_ripe, w_room, w_tables⟩
theorem atStart : AtStart classFile x code maxLocals ret World_1 tables_1 room_1 Calls_1 rest_1 Pre_1 launch0 p0 e0 about1 theMethod args0 below0 :=
  ⟨lists_1, trivial, launch0.admits_env _ _ _, launch0.least_env, fairChoices_fair.cas, fairChoices_fair.clock, w_frames, w_args, w_heap, w_applies, trivial, w_rest, w_case⟩
end start1
theorem witness_1 : WitnessClaimed_1 := ⟨start1.p0, start1.e0, start1.about1, start1.theMethod, start1.args0, start1.below0, start1.atStart⟩
end Jvm.Pilot.@@N@@
