import JvmDerived
import JvmDerived.Pilot.@@N@@Statement
import JvmDerived.Pilot.@@N@@Code
set_option linter.unusedVariables false
set_option linter.unusedSimpArgs false
namespace Jvm.Pilot.@@N@@
open Jvm Jvm.ClassFile Sem Op Lib Jvm.Free Jvm.Stand Jvm.LawKit Jvm.RoadKit Bundle Jvm.Pilot.@@N@@.Jvm.D
theorem own_fldI {Z : State} {args : Array Value} {t : Term} {a : Addr} {C n d : String} {z : Int32} (ev : t.eval args Z none [] Z = some (.ref a)) (h : (Cond.eq (Term.field t C n d) (Term.int z)).value args Z none Z [] = some true) : Fld Z Z.heap a C n d (.int z) := by
  obtain ⟨x, y, h1, h2, k1, k2⟩ := cmp_v (Or.inl h)
  have e2 : y = .int z := (Option.some.inj h2).symm
  subst e2
  obtain ⟨w, rfl⟩ := k2
  have hq : (Cond.eq (Term.field t C n d) (Term.int z)).value args Z none Z [] = some (decide (w = z)) := by simp [Cond.value, h1, h2]
  have hw : w = z := gotT hq h
  subst hw
  exact Fld.start ((fld_at ev).symm.trans h1)
theorem own_fldJ {Z : State} {args : Array Value} {t : Term} {a : Addr} {C n d : String} {z : Int64} (ev : t.eval args Z none [] Z = some (.ref a)) (h : (Cond.eq (Term.field t C n d) (Term.long z)).value args Z none Z [] = some true) : Fld Z Z.heap a C n d (.long z) := by
  obtain ⟨x, y, h1, h2, k1, k2⟩ := cmp_v (Or.inl h)
  have e2 : y = .long z := (Option.some.inj h2).symm
  subst e2
  obtain ⟨w, rfl⟩ := k2
  have hq : (Cond.eq (Term.field t C n d) (Term.long z)).value args Z none Z [] = some (decide (w = z)) := eq_L h1 h2
  have hw : w = z := gotT hq h
  subst hw
  exact Fld.start ((fld_at ev).symm.trans h1)
theorem own_arrKeep {Z : State} {h h' : Heap} {ws : List Addr} {a : Addr} {c : Cell} {ty : FieldType} (F : Arr Z h a c ty) (K : Keep h h' ws) (q : a ∉ ws) : Arr Z h' a c ty := ⟨K.2.1 _ _ F.1 q, F.2⟩
theorem own_staKeep {Z : State} {h h' : Heap} {ws : List Addr} {C n d : String} {v : Value} (F : Sta Z h C n d v) (K : Keep h h' ws) (q : ∀ x ∈ ws, ∀ c : Cell, h[x]? = some c → c.vm.isStatics = false) : Sta Z h' C n d v := by
  obtain ⟨cf, i, k, f, st, cell, h1, h2, h3, h4, h5, h6, h7⟩ := F
  exact ⟨cf, i, k, f, st, cell, h1, h2, h3, h4, K.2.1 _ _ h5 (fun z => by rw [q _ z _ h5] at h6; cases h6), h6, h7⟩
theorem own_mask31 (x : Int32) : 0 ≤ (x &&& 2147483647).toInt := by
  have h := c_mask x 2147483647 31 (by decide) (by decide)
  rw [h]; exact Int.emod_nonneg _ (by decide)
theorem own_mod (x : Int32) (y : Int32) (d : Int) (hy : y.toInt = d) (hd : 0 < d) : 0 ≤ ((x &&& 2147483647) % y).toInt ∧ ((x &&& 2147483647) % y).toInt < d := by
  have h := (c_irem (x &&& 2147483647) y d hy).1 (own_mask31 x)
  rw [h]; exact ⟨Int.emod_nonneg _ (by omega), Int.emod_lt_of_pos _ hd⟩
theorem own_and (x m : Int32) (hm : 0 ≤ m.toInt) : 0 ≤ (x &&& m).toInt ∧ (x &&& m).toInt ≤ m.toInt := c_and x m hm
theorem own_even (x : Int32) : x &&& 1 = 0 ↔ x % 2 = 0 := by
  have h1 := c_mask x 1 1 (by decide) (by decide)
  have h2 := c_irem x 2 2 (by decide)
  rw [← Int32.toInt_inj, ← Int32.toInt_inj, h1]
  show x.toInt % 2 = 0 ↔ (x % 2).toInt = 0
  rcases Int.lt_or_le x.toInt 0 with h | h
  · rw [h2.2 h]; omega
  · rw [h2.1 h]
def own_f1 (a1 : Addr) (p2 : Int32) (s_ALL : Addr) (s_KEYS : Addr) : Int32 := (if a1 = s_ALL then (1 : Int32) else (if a1 = s_KEYS then (if (p2 % (2 : Int32)) = (0 : Int32) then (1 : Int32) else (0 : Int32)) else (0 : Int32)))
theorem d1_0 : decode prog_9_method_4_code 0 = .ok (.aload_n 0, 1) := by decide +kernel
theorem d1_1 : decode prog_9_method_4_code 1 = .ok (.getstatic 10, 3) := by decide +kernel
theorem d1_4 : decode prog_9_method_4_code 4 = .ok (.if_acmp .eq 16, 3) := by decide +kernel
theorem d1_7 : decode prog_9_method_4_code 7 = .ok (.aload_n 0, 1) := by decide +kernel
theorem d1_8 : decode prog_9_method_4_code 8 = .ok (.getstatic 7, 3) := by decide +kernel
theorem d1_11 : decode prog_9_method_4_code 11 = .ok (.if_acmp .ne 13, 3) := by decide +kernel
theorem d1_14 : decode prog_9_method_4_code 14 = .ok (.iload_n 1, 1) := by decide +kernel
theorem d1_15 : decode prog_9_method_4_code 15 = .ok (.iconst 2, 1) := by decide +kernel
theorem d1_16 : decode prog_9_method_4_code 16 = .ok (.irem, 1) := by decide +kernel
theorem d1_17 : decode prog_9_method_4_code 17 = .ok (.ifCond .ne 7, 3) := by decide +kernel
theorem d1_20 : decode prog_9_method_4_code 20 = .ok (.iconst 1, 1) := by decide +kernel
theorem d1_21 : decode prog_9_method_4_code 21 = .ok (.goto 4, 3) := by decide +kernel
theorem d1_24 : decode prog_9_method_4_code 24 = .ok (.iconst 0, 1) := by decide +kernel
theorem d1_25 : decode prog_9_method_4_code 25 = .ok (.ireturn, 1) := by decide +kernel
theorem pn_1 : plainName "com/example/keep3/keep3/SerialForm$Hashed" = true := by first | (simp [plainName, overriddenIn]; done) | decide +kernel
theorem ef_1 (m : MethodId) (x0 : Addr) (x1 : Int32) : entryFrame m #[(.ref x0), (.int x1)] 2 = mkF m 0 #[.val (.ref x0), .val (.int x1)] [] := by first | (simp [entryFrame, mkF, argsToLocals, Value.category]; done) | rfl
def Q1 (Z : State) (a1 : Addr) (p2 : Int32) (s_ALL : Addr) (s_KEYS : Addr) (h0 : Heap) (n0 : Nat) (v : Option Value) (h : Heap) (L : List Loc) : Prop := v = some (.int (own_f1 a1 p2 s_ALL s_KEYS)) ∧ Fr n0 L ∧ h = h0
set_option maxRecDepth 65536 in
set_option maxHeartbeats 40000000 in
theorem rm1 (l : Launch) (Z : State) (a0 : Array Value) (hw : ∀ d ∈ tables_1, d.before a0 Z = true) (ws : List Jvm.Cond) (a1 : Addr) (p2 : Int32) (s_ALL : Addr) (s_KEYS : Addr) (h0 : Heap) (n0 : Nat) (Z0 : n0 ≤ h0.size) (S_ALL : Sta Z h0 "com/example/keep3/keep3/SerialForm$Hashed" "ALL" "Lcom/example/keep3/keep3/SerialForm$Hashed;" (.ref s_ALL)) (S_KEYS : Sta Z h0 "com/example/keep3/keep3/SerialForm$Hashed" "KEYS" "Lcom/example/keep3/keep3/SerialForm$Hashed;" (.ref s_KEYS)) :
    MetFree l (⟨"com/example/keep3/keep3/SerialForm$Hashed", "at", "(I)Z"⟩ : MethodName) (head1 (Jvm.Cond.code (⟨"com/example/keep3/keep3/SerialForm$Hashed", "at", "(I)Z"⟩ : MethodName) prog_9_method_4_code 2 (some .boolean) :: ws) ({ frames := 0, cells := 0, slots := 0, locals := 0 } : Room)) (fun a U => a = #[(.ref a1), (.int p2)] ∧ Z.Warmed39 U.vm ∧ U.heap = h0) (fun _ _ _ _ _ => True) (fun _ U o U' => ∃ v L, o = .returned v ∧ Q1 Z a1 p2 s_ALL s_KEYS h0 n0 v U'.heap L ∧ FrameEnd U o U' L ({ frames := 0, cells := 0, slots := 0, locals := 0 } : Room).cells ({ frames := 0, cells := 0, slots := 0, locals := 0 } : Room).slots) := by
  refine MetFree.of_bodySF (plainFor_of_name pn_1) hisR ?_
  intro p e s m args below meth c s₁ Bd hml0 hP hK
  obtain ⟨rfl, hZ, hh⟩ := hP
  have hx := Bd.exec
  have hby := Bd.bytes
  have hml : c.maxLocals = 2 := hml0
  have hown : s.vm.findClass "com/example/keep3/keep3/SerialForm$Hashed" = some m.cls := findClass_of_methodNamed Bd.named
  have hnm := (name_of_methodNamed Bd.named Bd.method).1
  have X0 : Stand p l e ({ frames := 0, cells := 0, slots := 0, locals := 0 } : Room) s m #[(.ref a1), (.int p2)] below meth c s₁ [] 0 0 := Stand.of_body Bd
  have e0 : s₁.heap = h0 := by rw [← hh, Bd.state]; rfl
  have N0 := Fr.nil n0
  have pre0 : ∀ t, Steps p.tables e below (s₁.setTop (mkF m 0 #[.val (.ref a1), .val (.int p2)] [])) t → Steps p.tables e below (s₁.setTop (entryFrame m #[(.ref a1), (.int p2)] 2)) t := fun t k => castTop (ef_1 m a1 p2) k
  obtain ⟨T3, X3, e3, st3⟩ := getS2 X0 hx hZ hown (host := "") (Or.inl (hw _ (List.mem_of_getElem? (i := 9) rfl))) Via.refl e0 S_ALL (g := (mkF m 1 #[.val (.ref a1), .val (.int p2)] [(.ref a1)])) rfl (hb hby d1_1)
  have pr5 : ∀ t, Steps p.tables e below (T3.setTop (mkF m 4 #[.val (.ref a1), .val (.int p2)] [(.ref s_ALL), (.ref a1)])) t → Steps p.tables e below (s₁.setTop (entryFrame m #[(.ref a1), (.int p2)] 2)) t := by
    intro t k
    refine pre0 t ?_
    show Steps p.tables e below (s₁.setTop (mkF m 0 #[.val (.ref a1), .val (.int p2)] [])) _
    refine XS.aloadN X0.here hx rfl (hb hby d1_0) rfl rfl ?_
    show Steps p.tables e below (s₁.setTop (mkF m 1 #[.val (.ref a1), .val (.int p2)] [(.ref a1)])) _
    refine st3 _ ?_
    show Steps p.tables e below (T3.setTop (mkF m 4 #[.val (.ref a1), .val (.int p2)] [(.ref s_ALL), (.ref a1)])) _
    exact k
  by_cases hc4 : a1 = s_ALL
  · obtain ⟨fs, hr, hrun, hended, hW, hsame⟩ := X3.leave (v := some (.int (1 : Int32))) (fun h => by rw [Bd.returns] at h; cases h)
    refine ⟨_, _, pr5 _ ?_, hrun, hended, _, _, rfl, ?_, ⟨_, rfl⟩, hW, hsame.mono (by decide) (by decide)⟩
    · show Steps p.tables e below (T3.setTop (mkF m 4 #[.val (.ref a1), .val (.int p2)] [(.ref s_ALL), (.ref a1)])) _
      refine Jvm.RoadKit.acmp (g := (mkF m 4 #[.val (.ref a1), .val (.int p2)] [(.ref s_ALL), (.ref a1)])) X3 hx rfl rfl rfl (pc0 := 4) (pc' := 20) (same := true) rfl (hb hby d1_4) rfl (decide_eq_true (congrArg Value.ref hc4)) (by decide) (by decide) ?_
      show Steps p.tables e below (T3.setTop (mkF m 20 #[.val (.ref a1), .val (.int p2)] [])) _
      refine XS.iconst X3.here hx rfl (hb hby d1_20) ?_
      show Steps p.tables e below (T3.setTop (mkF m 21 #[.val (.ref a1), .val (.int p2)] [(.int (1 : Int32))])) _
      refine XS.goto X3.here hx rfl (pc0 := 21) (pc' := 25) rfl (hb hby d1_21) (by decide) (by decide) ?_
      show Steps p.tables e below (T3.setTop (mkF m 25 #[.val (.ref a1), .val (.int p2)] [(.int (1 : Int32))])) _
      exact retN X3 hx (t := .boolean) Bd.returns (by simp) (hb hby d1_25) hr
    · show Q1 Z a1 p2 s_ALL s_KEYS h0 n0 _ T3.heap _
      rw [e3]
      exact ⟨(by rw [show (own_f1 a1 p2 s_ALL s_KEYS) = (1 : Int32) from by unfold own_f1; rw [if_pos hc4]]), N0, rfl⟩
  · obtain ⟨T6, X6, e6, st6⟩ := getS2 X3 hx hZ hown (host := "") (Or.inl (hw _ (List.mem_of_getElem? (i := 11) rfl))) Via.refl e3 S_KEYS (g := (mkF m 8 #[.val (.ref a1), .val (.int p2)] [(.ref a1)])) rfl (hb hby d1_8)
    have pr8 : ∀ t, Steps p.tables e below (T6.setTop (mkF m 11 #[.val (.ref a1), .val (.int p2)] [(.ref s_KEYS), (.ref a1)])) t → Steps p.tables e below (s₁.setTop (entryFrame m #[(.ref a1), (.int p2)] 2)) t := by
      intro t k
      refine pr5 t ?_
      show Steps p.tables e below (T3.setTop (mkF m 4 #[.val (.ref a1), .val (.int p2)] [(.ref s_ALL), (.ref a1)])) _
      refine Jvm.RoadKit.acmp (g := (mkF m 4 #[.val (.ref a1), .val (.int p2)] [(.ref s_ALL), (.ref a1)])) X3 hx rfl rfl rfl (pc0 := 4) (pc' := 7) (same := false) rfl (hb hby d1_4) rfl (decide_eq_false fun q => hc4 (Value.ref.inj q)) (by decide) (by decide) ?_
      show Steps p.tables e below (T3.setTop (mkF m 7 #[.val (.ref a1), .val (.int p2)] [])) _
      refine XS.aloadN X3.here hx rfl (hb hby d1_7) rfl rfl ?_
      show Steps p.tables e below (T3.setTop (mkF m 8 #[.val (.ref a1), .val (.int p2)] [(.ref a1)])) _
      refine st6 _ ?_
      show Steps p.tables e below (T6.setTop (mkF m 11 #[.val (.ref a1), .val (.int p2)] [(.ref s_KEYS), (.ref a1)])) _
      exact k
    by_cases hc7 : a1 = s_KEYS
    · have pr10 : ∀ t, Steps p.tables e below (T6.setTop (mkF m 17 #[.val (.ref a1), .val (.int p2)] [(.int (p2 % (2 : Int32)))])) t → Steps p.tables e below (s₁.setTop (entryFrame m #[(.ref a1), (.int p2)] 2)) t := by
        intro t k
        refine pr8 t ?_
        show Steps p.tables e below (T6.setTop (mkF m 11 #[.val (.ref a1), .val (.int p2)] [(.ref s_KEYS), (.ref a1)])) _
        refine Jvm.RoadKit.acmp (g := (mkF m 11 #[.val (.ref a1), .val (.int p2)] [(.ref s_KEYS), (.ref a1)])) X6 hx rfl rfl rfl (pc0 := 11) (pc' := 14) (same := true) rfl (hb hby d1_11) rfl (decide_eq_true (congrArg Value.ref hc7)) (by decide) (by decide) ?_
        show Steps p.tables e below (T6.setTop (mkF m 14 #[.val (.ref a1), .val (.int p2)] [])) _
        refine XS.iloadN X6.here hx rfl (hb hby d1_14) rfl ?_
        show Steps p.tables e below (T6.setTop (mkF m 15 #[.val (.ref a1), .val (.int p2)] [(.int p2)])) _
        refine XS.iconst X6.here hx rfl (hb hby d1_15) ?_
        show Steps p.tables e below (T6.setTop (mkF m 16 #[.val (.ref a1), .val (.int p2)] [(.int (2 : Int32)), (.int p2)])) _
        refine iremM X6 hx rfl (hb hby d1_16) rfl (by decide) ?_
        show Steps p.tables e below (T6.setTop (mkF m 17 #[.val (.ref a1), .val (.int p2)] [(.int (p2 % (2 : Int32)))])) _
        exact k
      by_cases hc9 : (p2 % (2 : Int32)) = (0 : Int32)
      · obtain ⟨fs, hr, hrun, hended, hW, hsame⟩ := X6.leave (v := some (.int (1 : Int32))) (fun h => by rw [Bd.returns] at h; cases h)
        refine ⟨_, _, pr10 _ ?_, hrun, hended, _, _, rfl, ?_, ⟨_, rfl⟩, hW, hsame.mono (by decide) (by decide)⟩
        · show Steps p.tables e below (T6.setTop (mkF m 17 #[.val (.ref a1), .val (.int p2)] [(.int (p2 % (2 : Int32)))])) _
          refine XS.ifNo X6.here hx rfl (hb hby d1_17) rfl ((if0 _ _).trans (teq hc9).2) ?_
          show Steps p.tables e below (T6.setTop (mkF m 20 #[.val (.ref a1), .val (.int p2)] [])) _
          refine XS.iconst X6.here hx rfl (hb hby d1_20) ?_
          show Steps p.tables e below (T6.setTop (mkF m 21 #[.val (.ref a1), .val (.int p2)] [(.int (1 : Int32))])) _
          refine XS.goto X6.here hx rfl (pc0 := 21) (pc' := 25) rfl (hb hby d1_21) (by decide) (by decide) ?_
          show Steps p.tables e below (T6.setTop (mkF m 25 #[.val (.ref a1), .val (.int p2)] [(.int (1 : Int32))])) _
          exact retN X6 hx (t := .boolean) Bd.returns (by simp) (hb hby d1_25) hr
        · show Q1 Z a1 p2 s_ALL s_KEYS h0 n0 _ T6.heap _
          rw [e6]
          exact ⟨(by rw [show (own_f1 a1 p2 s_ALL s_KEYS) = (1 : Int32) from by unfold own_f1; rw [if_neg hc4, if_pos hc7, if_pos hc9]]), N0, rfl⟩
      · obtain ⟨fs, hr, hrun, hended, hW, hsame⟩ := X6.leave (v := some (.int (0 : Int32))) (fun h => by rw [Bd.returns] at h; cases h)
        refine ⟨_, _, pr10 _ ?_, hrun, hended, _, _, rfl, ?_, ⟨_, rfl⟩, hW, hsame.mono (by decide) (by decide)⟩
        · show Steps p.tables e below (T6.setTop (mkF m 17 #[.val (.ref a1), .val (.int p2)] [(.int (p2 % (2 : Int32)))])) _
          refine XS.ifYes X6.here hx rfl (pc0 := 17) (pc' := 24) rfl (hb hby d1_17) rfl ((if0 _ _).trans (feq hc9).2) (by decide) (by decide) ?_
          show Steps p.tables e below (T6.setTop (mkF m 24 #[.val (.ref a1), .val (.int p2)] [])) _
          refine XS.iconst X6.here hx rfl (hb hby d1_24) ?_
          show Steps p.tables e below (T6.setTop (mkF m 25 #[.val (.ref a1), .val (.int p2)] [(.int (0 : Int32))])) _
          exact retN X6 hx (t := .boolean) Bd.returns (by simp) (hb hby d1_25) hr
        · show Q1 Z a1 p2 s_ALL s_KEYS h0 n0 _ T6.heap _
          rw [e6]
          exact ⟨(by rw [show (own_f1 a1 p2 s_ALL s_KEYS) = (0 : Int32) from by unfold own_f1; rw [if_neg hc4, if_pos hc7, if_neg hc9]]), N0, rfl⟩
    · obtain ⟨fs, hr, hrun, hended, hW, hsame⟩ := X6.leave (v := some (.int (0 : Int32))) (fun h => by rw [Bd.returns] at h; cases h)
      refine ⟨_, _, pr8 _ ?_, hrun, hended, _, _, rfl, ?_, ⟨_, rfl⟩, hW, hsame.mono (by decide) (by decide)⟩
      · show Steps p.tables e below (T6.setTop (mkF m 11 #[.val (.ref a1), .val (.int p2)] [(.ref s_KEYS), (.ref a1)])) _
        refine Jvm.RoadKit.acmp (g := (mkF m 11 #[.val (.ref a1), .val (.int p2)] [(.ref s_KEYS), (.ref a1)])) X6 hx rfl rfl rfl (pc0 := 11) (pc' := 24) (same := false) rfl (hb hby d1_11) rfl (decide_eq_false fun q => hc7 (Value.ref.inj q)) (by decide) (by decide) ?_
        show Steps p.tables e below (T6.setTop (mkF m 24 #[.val (.ref a1), .val (.int p2)] [])) _
        refine XS.iconst X6.here hx rfl (hb hby d1_24) ?_
        show Steps p.tables e below (T6.setTop (mkF m 25 #[.val (.ref a1), .val (.int p2)] [(.int (0 : Int32))])) _
        exact retN X6 hx (t := .boolean) Bd.returns (by simp) (hb hby d1_25) hr
      · show Q1 Z a1 p2 s_ALL s_KEYS h0 n0 _ T6.heap _
        rw [e6]
        exact ⟨(by rw [show (own_f1 a1 p2 s_ALL s_KEYS) = (0 : Int32) from by unfold own_f1; rw [if_neg hc4, if_neg hc7]]), N0, rfl⟩
theorem pn_0 : plainName "com/example/keep3/keep3/HashedAtPinLaw" = true := by first | (simp [plainName, overriddenIn]; done) | decide +kernel
theorem pd_0_0 : parseMethodDescriptor "(I)Z" = some ⟨[.int], some .boolean⟩ := by decide +kernel
theorem ef_0 (m : MethodId) (x0 : Int32) (x1 : Int32) : entryFrame m #[(.int x0), (.int x1)] maxLocals = mkF m 0 #[.val (.int x0), .val (.int x1), .unset, .unset, .unset] [] := by first | (simp [entryFrame, mkF, argsToLocals, Value.category, maxLocals]; done) | rfl
def Q0 (Z : State) (p1 : Int32) (p2 : Int32) (s_NONE : Addr) (s_ALL : Addr) (s_KEYS : Addr) (h0 : Heap) (n0 : Nat) (v : Option Value) (h : Heap) (L : List Loc) : Prop := v = some (.int (1 : Int32)) ∧ Fr n0 L
set_option maxRecDepth 65536 in
set_option maxHeartbeats 40000000 in
theorem rm0 (l : Launch) (Z : State) (a0 : Array Value) (hw : ∀ d ∈ tables_1, d.before a0 Z = true) (ws : List Jvm.Cond) (p1 : Int32) (p2 : Int32) (s_NONE : Addr) (s_ALL : Addr) (s_KEYS : Addr) (h0 : Heap) (n0 : Nat) (Z0 : n0 ≤ h0.size) (S_NONE : Sta Z h0 "com/example/keep3/keep3/SerialForm$Hashed" "NONE" "Lcom/example/keep3/keep3/SerialForm$Hashed;" (.ref s_NONE)) (E_s_NONE : Exa Z h0 s_NONE "com/example/keep3/keep3/SerialForm$Hashed") (S_ALL : Sta Z h0 "com/example/keep3/keep3/SerialForm$Hashed" "ALL" "Lcom/example/keep3/keep3/SerialForm$Hashed;" (.ref s_ALL)) (S_KEYS : Sta Z h0 "com/example/keep3/keep3/SerialForm$Hashed" "KEYS" "Lcom/example/keep3/keep3/SerialForm$Hashed;" (.ref s_KEYS)) (hq75_1 : (((p1 &&& (2147483647 : Int32)) % (3 : Int32)) = (0 : Int32)) → (own_f1 s_NONE p2 s_ALL s_KEYS) = (0 : Int32)) (E_s_KEYS : Exa Z h0 s_KEYS "com/example/keep3/keep3/SerialForm$Hashed") (hq75_2 : (¬ (((p1 &&& (2147483647 : Int32)) % (3 : Int32)) = (0 : Int32))) → (((p1 &&& (2147483647 : Int32)) % (3 : Int32)) = (1 : Int32)) → ((p2 &&& (1 : Int32)) = (0 : Int32)) → (own_f1 s_KEYS p2 s_ALL s_KEYS) = (1 : Int32)) (hq75_3 : (¬ (((p1 &&& (2147483647 : Int32)) % (3 : Int32)) = (0 : Int32))) → (((p1 &&& (2147483647 : Int32)) % (3 : Int32)) = (1 : Int32)) → (¬ ((p2 &&& (1 : Int32)) = (0 : Int32))) → (own_f1 s_KEYS p2 s_ALL s_KEYS) = (0 : Int32)) (E_s_ALL : Exa Z h0 s_ALL "com/example/keep3/keep3/SerialForm$Hashed") (hq75_4 : (¬ (((p1 &&& (2147483647 : Int32)) % (3 : Int32)) = (0 : Int32))) → (¬ (((p1 &&& (2147483647 : Int32)) % (3 : Int32)) = (1 : Int32))) → (own_f1 s_ALL p2 s_ALL s_KEYS) = (1 : Int32)) :
    MetFree l x (head1 (Jvm.Cond.code x code maxLocals ret :: ws) room_1) (fun a U => a = #[(.int p1), (.int p2)] ∧ Z.Warmed39 U.vm ∧ U.heap = h0) (fun _ _ _ _ _ => True) (fun _ U o U' => ∃ v L, o = .returned v ∧ Q0 Z p1 p2 s_NONE s_ALL s_KEYS h0 n0 v U'.heap L ∧ FrameEnd U o U' L room_1.cells room_1.slots) := by
  refine MetFree.of_bodySF (plainFor_of_name pn_0) hisR ?_
  intro p e s m args below meth c s₁ Bd hml0 hP hK
  obtain ⟨rfl, hZ, hh⟩ := hP
  have hx := Bd.exec
  have hby := Bd.bytes
  have hml : c.maxLocals = 5 := hml0
  have hown : s.vm.findClass "com/example/keep3/keep3/HashedAtPinLaw" = some m.cls := findClass_of_methodNamed Bd.named
  have hnm := (name_of_methodNamed Bd.named Bd.method).1
  have X0 : Stand p l e room_1 s m #[(.int p1), (.int p2)] below meth c s₁ [] 0 0 := Stand.of_body Bd
  have e0 : s₁.heap = h0 := by rw [← hh, Bd.state]; rfl
  have N0 := Fr.nil n0
  have pre0 : ∀ t, Steps p.tables e below (s₁.setTop (mkF m 0 #[.val (.int p1), .val (.int p2), .unset, .unset, .unset] [])) t → Steps p.tables e below (s₁.setTop (entryFrame m #[(.int p1), (.int p2)] maxLocals)) t := fun t k => castTop (ef_0 m p1 p2) k
  have pr4 : ∀ t, Steps p.tables e below (s₁.setTop (mkF m 8 #[.val (.int p1), .val (.int p2), .val (.int ((p1 &&& (2147483647 : Int32)) % (3 : Int32))), .unset, .unset] [(.int ((p1 &&& (2147483647 : Int32)) % (3 : Int32)))])) t → Steps p.tables e below (s₁.setTop (entryFrame m #[(.int p1), (.int p2)] maxLocals)) t := by
    intro t k
    refine pre0 t ?_
    show Steps p.tables e below (s₁.setTop (mkF m 0 #[.val (.int p1), .val (.int p2), .unset, .unset, .unset] [])) _
    refine XS.iloadN X0.here hx rfl (hb hby at_0) rfl ?_
    show Steps p.tables e below (s₁.setTop (mkF m 1 #[.val (.int p1), .val (.int p2), .unset, .unset, .unset] [(.int p1)])) _
    refine X0.ldcInt hx hown (mvT hZ (hw _ (List.mem_of_getElem? (i := 0) rfl))) (g := (mkF m 1 #[.val (.int p1), .val (.int p2), .unset, .unset, .unset] [(.int p1)])) rfl (hb hby at_1) _ ?_
    show Steps p.tables e below (s₁.setTop (mkF m 3 #[.val (.int p1), .val (.int p2), .unset, .unset, .unset] [(.int (2147483647 : Int32)), (.int p1)])) _
    refine XS.iand X0.here hx rfl (hb hby at_3) rfl ?_
    show Steps p.tables e below (s₁.setTop (mkF m 4 #[.val (.int p1), .val (.int p2), .unset, .unset, .unset] [(.int (p1 &&& (2147483647 : Int32)))])) _
    refine XS.iconst X0.here hx rfl (hb hby at_4) ?_
    show Steps p.tables e below (s₁.setTop (mkF m 5 #[.val (.int p1), .val (.int p2), .unset, .unset, .unset] [(.int (3 : Int32)), (.int (p1 &&& (2147483647 : Int32)))])) _
    refine iremM X0 hx rfl (hb hby at_5) rfl (by decide) ?_
    show Steps p.tables e below (s₁.setTop (mkF m 6 #[.val (.int p1), .val (.int p2), .unset, .unset, .unset] [(.int ((p1 &&& (2147483647 : Int32)) % (3 : Int32)))])) _
    refine XS.istoreN X0.here hx rfl (hb hby at_6) rfl (l' := #[.val (.int p1), .val (.int p2), .val (.int ((p1 &&& (2147483647 : Int32)) % (3 : Int32))), .unset, .unset]) rfl ?_
    show Steps p.tables e below (s₁.setTop (mkF m 7 #[.val (.int p1), .val (.int p2), .val (.int ((p1 &&& (2147483647 : Int32)) % (3 : Int32))), .unset, .unset] [])) _
    refine XS.iloadN X0.here hx rfl (hb hby at_7) rfl ?_
    show Steps p.tables e below (s₁.setTop (mkF m 8 #[.val (.int p1), .val (.int p2), .val (.int ((p1 &&& (2147483647 : Int32)) % (3 : Int32))), .unset, .unset] [(.int ((p1 &&& (2147483647 : Int32)) % (3 : Int32)))])) _
    exact k
  by_cases hc3 : ((p1 &&& (2147483647 : Int32)) % (3 : Int32)) = (0 : Int32)
  · obtain ⟨T5, X5, e5, st5⟩ := getS2 X0 hx hZ hown (host := "") (Or.inl (hw _ (List.mem_of_getElem? (i := 1) rfl))) Via.refl e0 S_NONE (g := (mkF m 11 #[.val (.int p1), .val (.int p2), .val (.int ((p1 &&& (2147483647 : Int32)) % (3 : Int32))), .unset, .unset] [])) rfl (hb hby at_11)
    obtain ⟨cq6, kq6, q6a, q6b, q6c⟩ := isOf hZ e5 E_s_NONE
    obtain ⟨_, _, ⟨T6, L6, k6, n6⟩, -, X6, ⟨Lc6, hQ6, l6, y6, z6⟩, st6⟩ := X5.virtualBack hx (y := (⟨"com/example/keep3/keep3/SerialForm$Hashed", "at", "(I)Z"⟩ : MethodName)) (z := (⟨"com/example/keep3/keep3/SerialForm$Hashed", "at", "(I)Z"⟩ : MethodName)) hown (mvT hZ (hw _ (List.mem_of_getElem? (i := 4) rfl))) (mvT hZ (hw _ (List.mem_of_getElem? (i := 5) rfl))) (notFace_of_selects (args := #[]) (mvT hZ (hw _ (List.mem_of_getElem? (i := 7) rfl)))) (mvT hZ (hw _ (List.mem_of_getElem? (i := 7) rfl))) (mvT hZ (hw _ (List.mem_of_getElem? (i := 6) rfl))) (by decide) (backOf (W := 0) (rm1 l Z a0 hw [] s_NONE p2 s_ALL s_KEYS h0 n0 Z0 S_ALL S_KEYS) hZ (hw _ (List.mem_of_getElem? (i := 8) rfl)) (hw _ (List.mem_of_getElem? (i := 2) rfl)) (by decide) (by decide)) q6a q6c (g := (mkF m 70 #[.val (.int p1), .val (.int p2), .val (.int ((p1 &&& (2147483647 : Int32)) % (3 : Int32))), .val (.ref s_NONE), .val (.int (0 : Int32))] [(.int p2), (.ref s_NONE)])) rfl (by rw [hml]; rfl) (Steps.refl _) (argsL := [(.int p2)]) (rest := []) (lenOf pd_0_0 rfl) rfl (by show 2 * 0 + _ ≤ _; exact Nat.le_of_eq rfl) (hb hby at_70) (fun _ _ => ⟨rfl, e5, (by decide : 0 + 0 ≤ _), (by decide : 0 + 0 ≤ _)⟩)
    dsimp only [Pt.U, Pt.locs, Pt.cells, Pt.slots] at X6 l6 y6 z6 st6 hQ6
    subst l6 y6 z6
    obtain ⟨rfl, N6q, e6⟩ := hQ6
    have N6 := Fr.app N0 N6q
    obtain ⟨fs, hr, hrun, hended, hW, hsame⟩ := X6.leave (v := some (.int (1 : Int32))) (fun h => by rw [Bd.returns] at h; cases h)
    refine ⟨_, _, pr4 _ ?_, hrun, hended, _, _, rfl, ?_, ⟨_, rfl⟩, hW, hsame.mono (by decide) (by decide)⟩
    · show Steps p.tables e below (s₁.setTop (mkF m 8 #[.val (.int p1), .val (.int p2), .val (.int ((p1 &&& (2147483647 : Int32)) % (3 : Int32))), .unset, .unset] [(.int ((p1 &&& (2147483647 : Int32)) % (3 : Int32)))])) _
      refine XS.ifNo X0.here hx rfl (hb hby at_8) rfl ((if0 _ _).trans (teq hc3).2) ?_
      show Steps p.tables e below (s₁.setTop (mkF m 11 #[.val (.int p1), .val (.int p2), .val (.int ((p1 &&& (2147483647 : Int32)) % (3 : Int32))), .unset, .unset] [])) _
      refine st5 _ ?_
      show Steps p.tables e below (T5.setTop (mkF m 14 #[.val (.int p1), .val (.int p2), .val (.int ((p1 &&& (2147483647 : Int32)) % (3 : Int32))), .unset, .unset] [(.ref s_NONE)])) _
      refine XS.astoreN X5.here hx rfl (hb hby at_14) rfl rfl (l' := #[.val (.int p1), .val (.int p2), .val (.int ((p1 &&& (2147483647 : Int32)) % (3 : Int32))), .val (.ref s_NONE), .unset]) rfl ?_
      show Steps p.tables e below (T5.setTop (mkF m 15 #[.val (.int p1), .val (.int p2), .val (.int ((p1 &&& (2147483647 : Int32)) % (3 : Int32))), .val (.ref s_NONE), .unset] [])) _
      refine XS.goto X5.here hx rfl (pc0 := 15) (pc' := 34) rfl (hb hby at_15) (by decide) (by decide) ?_
      show Steps p.tables e below (T5.setTop (mkF m 34 #[.val (.int p1), .val (.int p2), .val (.int ((p1 &&& (2147483647 : Int32)) % (3 : Int32))), .val (.ref s_NONE), .unset] [])) _
      refine XS.iloadN X5.here hx rfl (hb hby at_34) rfl ?_
      show Steps p.tables e below (T5.setTop (mkF m 35 #[.val (.int p1), .val (.int p2), .val (.int ((p1 &&& (2147483647 : Int32)) % (3 : Int32))), .val (.ref s_NONE), .unset] [(.int ((p1 &&& (2147483647 : Int32)) % (3 : Int32)))])) _
      refine XS.ifNo X5.here hx rfl (hb hby at_35) rfl ((if0 _ _).trans (teq hc3).2) ?_
      show Steps p.tables e below (T5.setTop (mkF m 38 #[.val (.int p1), .val (.int p2), .val (.int ((p1 &&& (2147483647 : Int32)) % (3 : Int32))), .val (.ref s_NONE), .unset] [])) _
      refine XS.iconst X5.here hx rfl (hb hby at_38) ?_
      show Steps p.tables e below (T5.setTop (mkF m 39 #[.val (.int p1), .val (.int p2), .val (.int ((p1 &&& (2147483647 : Int32)) % (3 : Int32))), .val (.ref s_NONE), .unset] [(.int (0 : Int32))])) _
      refine XS.istore X5.here hx rfl (hb hby at_39) rfl (l' := #[.val (.int p1), .val (.int p2), .val (.int ((p1 &&& (2147483647 : Int32)) % (3 : Int32))), .val (.ref s_NONE), .val (.int (0 : Int32))]) rfl ?_
      show Steps p.tables e below (T5.setTop (mkF m 41 #[.val (.int p1), .val (.int p2), .val (.int ((p1 &&& (2147483647 : Int32)) % (3 : Int32))), .val (.ref s_NONE), .val (.int (0 : Int32))] [])) _
      refine XS.goto X5.here hx rfl (pc0 := 41) (pc' := 68) rfl (hb hby at_41) (by decide) (by decide) ?_
      show Steps p.tables e below (T5.setTop (mkF m 68 #[.val (.int p1), .val (.int p2), .val (.int ((p1 &&& (2147483647 : Int32)) % (3 : Int32))), .val (.ref s_NONE), .val (.int (0 : Int32))] [])) _
      refine XS.aloadN X5.here hx rfl (hb hby at_68) rfl rfl ?_
      show Steps p.tables e below (T5.setTop (mkF m 69 #[.val (.int p1), .val (.int p2), .val (.int ((p1 &&& (2147483647 : Int32)) % (3 : Int32))), .val (.ref s_NONE), .val (.int (0 : Int32))] [(.ref s_NONE)])) _
      refine XS.iloadN X5.here hx rfl (hb hby at_69) rfl ?_
      show Steps p.tables e below (T5.setTop (mkF m 70 #[.val (.int p1), .val (.int p2), .val (.int ((p1 &&& (2147483647 : Int32)) % (3 : Int32))), .val (.ref s_NONE), .val (.int (0 : Int32))] [(.int p2), (.ref s_NONE)])) _
      refine st6.trans ?_
      show Steps p.tables e below (T6.setTop (mkF m 73 #[.val (.int p1), .val (.int p2), .val (.int ((p1 &&& (2147483647 : Int32)) % (3 : Int32))), .val (.ref s_NONE), .val (.int (0 : Int32))] [(.int (own_f1 s_NONE p2 s_ALL s_KEYS))])) _
      refine XS.iload X6.here hx rfl (hb hby at_73) rfl ?_
      show Steps p.tables e below (T6.setTop (mkF m 75 #[.val (.int p1), .val (.int p2), .val (.int ((p1 &&& (2147483647 : Int32)) % (3 : Int32))), .val (.ref s_NONE), .val (.int (0 : Int32))] [(.int (0 : Int32)), (.int (own_f1 s_NONE p2 s_ALL s_KEYS))])) _
      refine XS.icmpNo X6.here hx rfl (hb hby at_75) rfl (teq (hq75_1 hc3)).2 ?_
      show Steps p.tables e below (T6.setTop (mkF m 78 #[.val (.int p1), .val (.int p2), .val (.int ((p1 &&& (2147483647 : Int32)) % (3 : Int32))), .val (.ref s_NONE), .val (.int (0 : Int32))] [])) _
      refine XS.iconst X6.here hx rfl (hb hby at_78) ?_
      show Steps p.tables e below (T6.setTop (mkF m 79 #[.val (.int p1), .val (.int p2), .val (.int ((p1 &&& (2147483647 : Int32)) % (3 : Int32))), .val (.ref s_NONE), .val (.int (0 : Int32))] [(.int (1 : Int32))])) _
      refine XS.goto X6.here hx rfl (pc0 := 79) (pc' := 83) rfl (hb hby at_79) (by decide) (by decide) ?_
      show Steps p.tables e below (T6.setTop (mkF m 83 #[.val (.int p1), .val (.int p2), .val (.int ((p1 &&& (2147483647 : Int32)) % (3 : Int32))), .val (.ref s_NONE), .val (.int (0 : Int32))] [(.int (1 : Int32))])) _
      exact retN X6 hx (t := .boolean) Bd.returns (by simp) (hb hby at_83) hr
    · show Q0 Z p1 p2 s_NONE s_ALL s_KEYS h0 n0 _ T6.heap _
      rw [e6]
      exact ⟨rfl, N6⟩
  · have pr8 : ∀ t, Steps p.tables e below (s₁.setTop (mkF m 20 #[.val (.int p1), .val (.int p2), .val (.int ((p1 &&& (2147483647 : Int32)) % (3 : Int32))), .unset, .unset] [(.int (1 : Int32)), (.int ((p1 &&& (2147483647 : Int32)) % (3 : Int32)))])) t → Steps p.tables e below (s₁.setTop (entryFrame m #[(.int p1), (.int p2)] maxLocals)) t := by
      intro t k
      refine pr4 t ?_
      show Steps p.tables e below (s₁.setTop (mkF m 8 #[.val (.int p1), .val (.int p2), .val (.int ((p1 &&& (2147483647 : Int32)) % (3 : Int32))), .unset, .unset] [(.int ((p1 &&& (2147483647 : Int32)) % (3 : Int32)))])) _
      refine XS.ifYes X0.here hx rfl (pc0 := 8) (pc' := 18) rfl (hb hby at_8) rfl ((if0 _ _).trans (feq hc3).2) (by decide) (by decide) ?_
      show Steps p.tables e below (s₁.setTop (mkF m 18 #[.val (.int p1), .val (.int p2), .val (.int ((p1 &&& (2147483647 : Int32)) % (3 : Int32))), .unset, .unset] [])) _
      refine XS.iloadN X0.here hx rfl (hb hby at_18) rfl ?_
      show Steps p.tables e below (s₁.setTop (mkF m 19 #[.val (.int p1), .val (.int p2), .val (.int ((p1 &&& (2147483647 : Int32)) % (3 : Int32))), .unset, .unset] [(.int ((p1 &&& (2147483647 : Int32)) % (3 : Int32)))])) _
      refine XS.iconst X0.here hx rfl (hb hby at_19) ?_
      show Steps p.tables e below (s₁.setTop (mkF m 20 #[.val (.int p1), .val (.int p2), .val (.int ((p1 &&& (2147483647 : Int32)) % (3 : Int32))), .unset, .unset] [(.int (1 : Int32)), (.int ((p1 &&& (2147483647 : Int32)) % (3 : Int32)))])) _
      exact k
    by_cases hc7 : ((p1 &&& (2147483647 : Int32)) % (3 : Int32)) = (1 : Int32)
    · obtain ⟨T9, X9, e9, st9⟩ := getS2 X0 hx hZ hown (host := "") (Or.inl (hw _ (List.mem_of_getElem? (i := 14) rfl))) Via.refl e0 S_KEYS (g := (mkF m 23 #[.val (.int p1), .val (.int p2), .val (.int ((p1 &&& (2147483647 : Int32)) % (3 : Int32))), .unset, .unset] [])) rfl (hb hby at_23)
      have pr11 : ∀ t, Steps p.tables e below (T9.setTop (mkF m 52 #[.val (.int p1), .val (.int p2), .val (.int ((p1 &&& (2147483647 : Int32)) % (3 : Int32))), .val (.ref s_KEYS), .unset] [(.int (p2 &&& (1 : Int32)))])) t → Steps p.tables e below (s₁.setTop (entryFrame m #[(.int p1), (.int p2)] maxLocals)) t := by
        intro t k
        refine pr8 t ?_
        show Steps p.tables e below (s₁.setTop (mkF m 20 #[.val (.int p1), .val (.int p2), .val (.int ((p1 &&& (2147483647 : Int32)) % (3 : Int32))), .unset, .unset] [(.int (1 : Int32)), (.int ((p1 &&& (2147483647 : Int32)) % (3 : Int32)))])) _
        refine XS.icmpNo X0.here hx rfl (hb hby at_20) rfl (teq hc7).2 ?_
        show Steps p.tables e below (s₁.setTop (mkF m 23 #[.val (.int p1), .val (.int p2), .val (.int ((p1 &&& (2147483647 : Int32)) % (3 : Int32))), .unset, .unset] [])) _
        refine st9 _ ?_
        show Steps p.tables e below (T9.setTop (mkF m 26 #[.val (.int p1), .val (.int p2), .val (.int ((p1 &&& (2147483647 : Int32)) % (3 : Int32))), .unset, .unset] [(.ref s_KEYS)])) _
        refine XS.astoreN X9.here hx rfl (hb hby at_26) rfl rfl (l' := #[.val (.int p1), .val (.int p2), .val (.int ((p1 &&& (2147483647 : Int32)) % (3 : Int32))), .val (.ref s_KEYS), .unset]) rfl ?_
        show Steps p.tables e below (T9.setTop (mkF m 27 #[.val (.int p1), .val (.int p2), .val (.int ((p1 &&& (2147483647 : Int32)) % (3 : Int32))), .val (.ref s_KEYS), .unset] [])) _
        refine XS.goto X9.here hx rfl (pc0 := 27) (pc' := 34) rfl (hb hby at_27) (by decide) (by decide) ?_
        show Steps p.tables e below (T9.setTop (mkF m 34 #[.val (.int p1), .val (.int p2), .val (.int ((p1 &&& (2147483647 : Int32)) % (3 : Int32))), .val (.ref s_KEYS), .unset] [])) _
        refine XS.iloadN X9.here hx rfl (hb hby at_34) rfl ?_
        show Steps p.tables e below (T9.setTop (mkF m 35 #[.val (.int p1), .val (.int p2), .val (.int ((p1 &&& (2147483647 : Int32)) % (3 : Int32))), .val (.ref s_KEYS), .unset] [(.int ((p1 &&& (2147483647 : Int32)) % (3 : Int32)))])) _
        refine XS.ifYes X9.here hx rfl (pc0 := 35) (pc' := 44) rfl (hb hby at_35) rfl ((if0 _ _).trans (feq hc3).2) (by decide) (by decide) ?_
        show Steps p.tables e below (T9.setTop (mkF m 44 #[.val (.int p1), .val (.int p2), .val (.int ((p1 &&& (2147483647 : Int32)) % (3 : Int32))), .val (.ref s_KEYS), .unset] [])) _
        refine XS.iloadN X9.here hx rfl (hb hby at_44) rfl ?_
        show Steps p.tables e below (T9.setTop (mkF m 45 #[.val (.int p1), .val (.int p2), .val (.int ((p1 &&& (2147483647 : Int32)) % (3 : Int32))), .val (.ref s_KEYS), .unset] [(.int ((p1 &&& (2147483647 : Int32)) % (3 : Int32)))])) _
        refine XS.iconst X9.here hx rfl (hb hby at_45) ?_
        show Steps p.tables e below (T9.setTop (mkF m 46 #[.val (.int p1), .val (.int p2), .val (.int ((p1 &&& (2147483647 : Int32)) % (3 : Int32))), .val (.ref s_KEYS), .unset] [(.int (1 : Int32)), (.int ((p1 &&& (2147483647 : Int32)) % (3 : Int32)))])) _
        refine XS.icmpNo X9.here hx rfl (hb hby at_46) rfl (teq hc7).2 ?_
        show Steps p.tables e below (T9.setTop (mkF m 49 #[.val (.int p1), .val (.int p2), .val (.int ((p1 &&& (2147483647 : Int32)) % (3 : Int32))), .val (.ref s_KEYS), .unset] [])) _
        refine XS.iloadN X9.here hx rfl (hb hby at_49) rfl ?_
        show Steps p.tables e below (T9.setTop (mkF m 50 #[.val (.int p1), .val (.int p2), .val (.int ((p1 &&& (2147483647 : Int32)) % (3 : Int32))), .val (.ref s_KEYS), .unset] [(.int p2)])) _
        refine XS.iconst X9.here hx rfl (hb hby at_50) ?_
        show Steps p.tables e below (T9.setTop (mkF m 51 #[.val (.int p1), .val (.int p2), .val (.int ((p1 &&& (2147483647 : Int32)) % (3 : Int32))), .val (.ref s_KEYS), .unset] [(.int (1 : Int32)), (.int p2)])) _
        refine XS.iand X9.here hx rfl (hb hby at_51) rfl ?_
        show Steps p.tables e below (T9.setTop (mkF m 52 #[.val (.int p1), .val (.int p2), .val (.int ((p1 &&& (2147483647 : Int32)) % (3 : Int32))), .val (.ref s_KEYS), .unset] [(.int (p2 &&& (1 : Int32)))])) _
        exact k
      by_cases hc10 : (p2 &&& (1 : Int32)) = (0 : Int32)
      · obtain ⟨cq12, kq12, q12a, q12b, q12c⟩ := isOf hZ e9 E_s_KEYS
        obtain ⟨_, _, ⟨T12, L12, k12, n12⟩, -, X12, ⟨Lc12, hQ12, l12, y12, z12⟩, st12⟩ := X9.virtualBack hx (y := (⟨"com/example/keep3/keep3/SerialForm$Hashed", "at", "(I)Z"⟩ : MethodName)) (z := (⟨"com/example/keep3/keep3/SerialForm$Hashed", "at", "(I)Z"⟩ : MethodName)) hown (mvT hZ (hw _ (List.mem_of_getElem? (i := 4) rfl))) (mvT hZ (hw _ (List.mem_of_getElem? (i := 5) rfl))) (notFace_of_selects (args := #[]) (mvT hZ (hw _ (List.mem_of_getElem? (i := 7) rfl)))) (mvT hZ (hw _ (List.mem_of_getElem? (i := 7) rfl))) (mvT hZ (hw _ (List.mem_of_getElem? (i := 6) rfl))) (by decide) (backOf (W := 0) (rm1 l Z a0 hw [] s_KEYS p2 s_ALL s_KEYS h0 n0 Z0 S_ALL S_KEYS) hZ (hw _ (List.mem_of_getElem? (i := 8) rfl)) (hw _ (List.mem_of_getElem? (i := 2) rfl)) (by decide) (by decide)) q12a q12c (g := (mkF m 70 #[.val (.int p1), .val (.int p2), .val (.int ((p1 &&& (2147483647 : Int32)) % (3 : Int32))), .val (.ref s_KEYS), .val (.int (1 : Int32))] [(.int p2), (.ref s_KEYS)])) rfl (by rw [hml]; rfl) (Steps.refl _) (argsL := [(.int p2)]) (rest := []) (lenOf pd_0_0 rfl) rfl (by show 2 * 0 + _ ≤ _; exact Nat.le_of_eq rfl) (hb hby at_70) (fun _ _ => ⟨rfl, e9, (by decide : 0 + 0 ≤ _), (by decide : 0 + 0 ≤ _)⟩)
        dsimp only [Pt.U, Pt.locs, Pt.cells, Pt.slots] at X12 l12 y12 z12 st12 hQ12
        subst l12 y12 z12
        obtain ⟨rfl, N12q, e12⟩ := hQ12
        have N12 := Fr.app N0 N12q
        obtain ⟨fs, hr, hrun, hended, hW, hsame⟩ := X12.leave (v := some (.int (1 : Int32))) (fun h => by rw [Bd.returns] at h; cases h)
        refine ⟨_, _, pr11 _ ?_, hrun, hended, _, _, rfl, ?_, ⟨_, rfl⟩, hW, hsame.mono (by decide) (by decide)⟩
        · show Steps p.tables e below (T9.setTop (mkF m 52 #[.val (.int p1), .val (.int p2), .val (.int ((p1 &&& (2147483647 : Int32)) % (3 : Int32))), .val (.ref s_KEYS), .unset] [(.int (p2 &&& (1 : Int32)))])) _
          refine XS.ifNo X9.here hx rfl (hb hby at_52) rfl ((if0 _ _).trans (teq hc10).2) ?_
          show Steps p.tables e below (T9.setTop (mkF m 55 #[.val (.int p1), .val (.int p2), .val (.int ((p1 &&& (2147483647 : Int32)) % (3 : Int32))), .val (.ref s_KEYS), .unset] [])) _
          refine XS.iconst X9.here hx rfl (hb hby at_55) ?_
          show Steps p.tables e below (T9.setTop (mkF m 56 #[.val (.int p1), .val (.int p2), .val (.int ((p1 &&& (2147483647 : Int32)) % (3 : Int32))), .val (.ref s_KEYS), .unset] [(.int (1 : Int32))])) _
          refine XS.goto X9.here hx rfl (pc0 := 56) (pc' := 60) rfl (hb hby at_56) (by decide) (by decide) ?_
          show Steps p.tables e below (T9.setTop (mkF m 60 #[.val (.int p1), .val (.int p2), .val (.int ((p1 &&& (2147483647 : Int32)) % (3 : Int32))), .val (.ref s_KEYS), .unset] [(.int (1 : Int32))])) _
          refine XS.istore X9.here hx rfl (hb hby at_60) rfl (l' := #[.val (.int p1), .val (.int p2), .val (.int ((p1 &&& (2147483647 : Int32)) % (3 : Int32))), .val (.ref s_KEYS), .val (.int (1 : Int32))]) rfl ?_
          show Steps p.tables e below (T9.setTop (mkF m 62 #[.val (.int p1), .val (.int p2), .val (.int ((p1 &&& (2147483647 : Int32)) % (3 : Int32))), .val (.ref s_KEYS), .val (.int (1 : Int32))] [])) _
          refine XS.goto X9.here hx rfl (pc0 := 62) (pc' := 68) rfl (hb hby at_62) (by decide) (by decide) ?_
          show Steps p.tables e below (T9.setTop (mkF m 68 #[.val (.int p1), .val (.int p2), .val (.int ((p1 &&& (2147483647 : Int32)) % (3 : Int32))), .val (.ref s_KEYS), .val (.int (1 : Int32))] [])) _
          refine XS.aloadN X9.here hx rfl (hb hby at_68) rfl rfl ?_
          show Steps p.tables e below (T9.setTop (mkF m 69 #[.val (.int p1), .val (.int p2), .val (.int ((p1 &&& (2147483647 : Int32)) % (3 : Int32))), .val (.ref s_KEYS), .val (.int (1 : Int32))] [(.ref s_KEYS)])) _
          refine XS.iloadN X9.here hx rfl (hb hby at_69) rfl ?_
          show Steps p.tables e below (T9.setTop (mkF m 70 #[.val (.int p1), .val (.int p2), .val (.int ((p1 &&& (2147483647 : Int32)) % (3 : Int32))), .val (.ref s_KEYS), .val (.int (1 : Int32))] [(.int p2), (.ref s_KEYS)])) _
          refine st12.trans ?_
          show Steps p.tables e below (T12.setTop (mkF m 73 #[.val (.int p1), .val (.int p2), .val (.int ((p1 &&& (2147483647 : Int32)) % (3 : Int32))), .val (.ref s_KEYS), .val (.int (1 : Int32))] [(.int (own_f1 s_KEYS p2 s_ALL s_KEYS))])) _
          refine XS.iload X12.here hx rfl (hb hby at_73) rfl ?_
          show Steps p.tables e below (T12.setTop (mkF m 75 #[.val (.int p1), .val (.int p2), .val (.int ((p1 &&& (2147483647 : Int32)) % (3 : Int32))), .val (.ref s_KEYS), .val (.int (1 : Int32))] [(.int (1 : Int32)), (.int (own_f1 s_KEYS p2 s_ALL s_KEYS))])) _
          refine XS.icmpNo X12.here hx rfl (hb hby at_75) rfl (teq (hq75_2 hc3 hc7 hc10)).2 ?_
          show Steps p.tables e below (T12.setTop (mkF m 78 #[.val (.int p1), .val (.int p2), .val (.int ((p1 &&& (2147483647 : Int32)) % (3 : Int32))), .val (.ref s_KEYS), .val (.int (1 : Int32))] [])) _
          refine XS.iconst X12.here hx rfl (hb hby at_78) ?_
          show Steps p.tables e below (T12.setTop (mkF m 79 #[.val (.int p1), .val (.int p2), .val (.int ((p1 &&& (2147483647 : Int32)) % (3 : Int32))), .val (.ref s_KEYS), .val (.int (1 : Int32))] [(.int (1 : Int32))])) _
          refine XS.goto X12.here hx rfl (pc0 := 79) (pc' := 83) rfl (hb hby at_79) (by decide) (by decide) ?_
          show Steps p.tables e below (T12.setTop (mkF m 83 #[.val (.int p1), .val (.int p2), .val (.int ((p1 &&& (2147483647 : Int32)) % (3 : Int32))), .val (.ref s_KEYS), .val (.int (1 : Int32))] [(.int (1 : Int32))])) _
          exact retN X12 hx (t := .boolean) Bd.returns (by simp) (hb hby at_83) hr
        · show Q0 Z p1 p2 s_NONE s_ALL s_KEYS h0 n0 _ T12.heap _
          rw [e12]
          exact ⟨rfl, N12⟩
      · obtain ⟨cq13, kq13, q13a, q13b, q13c⟩ := isOf hZ e9 E_s_KEYS
        obtain ⟨_, _, ⟨T13, L13, k13, n13⟩, -, X13, ⟨Lc13, hQ13, l13, y13, z13⟩, st13⟩ := X9.virtualBack hx (y := (⟨"com/example/keep3/keep3/SerialForm$Hashed", "at", "(I)Z"⟩ : MethodName)) (z := (⟨"com/example/keep3/keep3/SerialForm$Hashed", "at", "(I)Z"⟩ : MethodName)) hown (mvT hZ (hw _ (List.mem_of_getElem? (i := 4) rfl))) (mvT hZ (hw _ (List.mem_of_getElem? (i := 5) rfl))) (notFace_of_selects (args := #[]) (mvT hZ (hw _ (List.mem_of_getElem? (i := 7) rfl)))) (mvT hZ (hw _ (List.mem_of_getElem? (i := 7) rfl))) (mvT hZ (hw _ (List.mem_of_getElem? (i := 6) rfl))) (by decide) (backOf (W := 0) (rm1 l Z a0 hw [] s_KEYS p2 s_ALL s_KEYS h0 n0 Z0 S_ALL S_KEYS) hZ (hw _ (List.mem_of_getElem? (i := 8) rfl)) (hw _ (List.mem_of_getElem? (i := 2) rfl)) (by decide) (by decide)) q13a q13c (g := (mkF m 70 #[.val (.int p1), .val (.int p2), .val (.int ((p1 &&& (2147483647 : Int32)) % (3 : Int32))), .val (.ref s_KEYS), .val (.int (0 : Int32))] [(.int p2), (.ref s_KEYS)])) rfl (by rw [hml]; rfl) (Steps.refl _) (argsL := [(.int p2)]) (rest := []) (lenOf pd_0_0 rfl) rfl (by show 2 * 0 + _ ≤ _; exact Nat.le_of_eq rfl) (hb hby at_70) (fun _ _ => ⟨rfl, e9, (by decide : 0 + 0 ≤ _), (by decide : 0 + 0 ≤ _)⟩)
        dsimp only [Pt.U, Pt.locs, Pt.cells, Pt.slots] at X13 l13 y13 z13 st13 hQ13
        subst l13 y13 z13
        obtain ⟨rfl, N13q, e13⟩ := hQ13
        have N13 := Fr.app N0 N13q
        obtain ⟨fs, hr, hrun, hended, hW, hsame⟩ := X13.leave (v := some (.int (1 : Int32))) (fun h => by rw [Bd.returns] at h; cases h)
        refine ⟨_, _, pr11 _ ?_, hrun, hended, _, _, rfl, ?_, ⟨_, rfl⟩, hW, hsame.mono (by decide) (by decide)⟩
        · show Steps p.tables e below (T9.setTop (mkF m 52 #[.val (.int p1), .val (.int p2), .val (.int ((p1 &&& (2147483647 : Int32)) % (3 : Int32))), .val (.ref s_KEYS), .unset] [(.int (p2 &&& (1 : Int32)))])) _
          refine XS.ifYes X9.here hx rfl (pc0 := 52) (pc' := 59) rfl (hb hby at_52) rfl ((if0 _ _).trans (feq hc10).2) (by decide) (by decide) ?_
          show Steps p.tables e below (T9.setTop (mkF m 59 #[.val (.int p1), .val (.int p2), .val (.int ((p1 &&& (2147483647 : Int32)) % (3 : Int32))), .val (.ref s_KEYS), .unset] [])) _
          refine XS.iconst X9.here hx rfl (hb hby at_59) ?_
          show Steps p.tables e below (T9.setTop (mkF m 60 #[.val (.int p1), .val (.int p2), .val (.int ((p1 &&& (2147483647 : Int32)) % (3 : Int32))), .val (.ref s_KEYS), .unset] [(.int (0 : Int32))])) _
          refine XS.istore X9.here hx rfl (hb hby at_60) rfl (l' := #[.val (.int p1), .val (.int p2), .val (.int ((p1 &&& (2147483647 : Int32)) % (3 : Int32))), .val (.ref s_KEYS), .val (.int (0 : Int32))]) rfl ?_
          show Steps p.tables e below (T9.setTop (mkF m 62 #[.val (.int p1), .val (.int p2), .val (.int ((p1 &&& (2147483647 : Int32)) % (3 : Int32))), .val (.ref s_KEYS), .val (.int (0 : Int32))] [])) _
          refine XS.goto X9.here hx rfl (pc0 := 62) (pc' := 68) rfl (hb hby at_62) (by decide) (by decide) ?_
          show Steps p.tables e below (T9.setTop (mkF m 68 #[.val (.int p1), .val (.int p2), .val (.int ((p1 &&& (2147483647 : Int32)) % (3 : Int32))), .val (.ref s_KEYS), .val (.int (0 : Int32))] [])) _
          refine XS.aloadN X9.here hx rfl (hb hby at_68) rfl rfl ?_
          show Steps p.tables e below (T9.setTop (mkF m 69 #[.val (.int p1), .val (.int p2), .val (.int ((p1 &&& (2147483647 : Int32)) % (3 : Int32))), .val (.ref s_KEYS), .val (.int (0 : Int32))] [(.ref s_KEYS)])) _
          refine XS.iloadN X9.here hx rfl (hb hby at_69) rfl ?_
          show Steps p.tables e below (T9.setTop (mkF m 70 #[.val (.int p1), .val (.int p2), .val (.int ((p1 &&& (2147483647 : Int32)) % (3 : Int32))), .val (.ref s_KEYS), .val (.int (0 : Int32))] [(.int p2), (.ref s_KEYS)])) _
          refine st13.trans ?_
          show Steps p.tables e below (T13.setTop (mkF m 73 #[.val (.int p1), .val (.int p2), .val (.int ((p1 &&& (2147483647 : Int32)) % (3 : Int32))), .val (.ref s_KEYS), .val (.int (0 : Int32))] [(.int (own_f1 s_KEYS p2 s_ALL s_KEYS))])) _
          refine XS.iload X13.here hx rfl (hb hby at_73) rfl ?_
          show Steps p.tables e below (T13.setTop (mkF m 75 #[.val (.int p1), .val (.int p2), .val (.int ((p1 &&& (2147483647 : Int32)) % (3 : Int32))), .val (.ref s_KEYS), .val (.int (0 : Int32))] [(.int (0 : Int32)), (.int (own_f1 s_KEYS p2 s_ALL s_KEYS))])) _
          refine XS.icmpNo X13.here hx rfl (hb hby at_75) rfl (teq (hq75_3 hc3 hc7 hc10)).2 ?_
          show Steps p.tables e below (T13.setTop (mkF m 78 #[.val (.int p1), .val (.int p2), .val (.int ((p1 &&& (2147483647 : Int32)) % (3 : Int32))), .val (.ref s_KEYS), .val (.int (0 : Int32))] [])) _
          refine XS.iconst X13.here hx rfl (hb hby at_78) ?_
          show Steps p.tables e below (T13.setTop (mkF m 79 #[.val (.int p1), .val (.int p2), .val (.int ((p1 &&& (2147483647 : Int32)) % (3 : Int32))), .val (.ref s_KEYS), .val (.int (0 : Int32))] [(.int (1 : Int32))])) _
          refine XS.goto X13.here hx rfl (pc0 := 79) (pc' := 83) rfl (hb hby at_79) (by decide) (by decide) ?_
          show Steps p.tables e below (T13.setTop (mkF m 83 #[.val (.int p1), .val (.int p2), .val (.int ((p1 &&& (2147483647 : Int32)) % (3 : Int32))), .val (.ref s_KEYS), .val (.int (0 : Int32))] [(.int (1 : Int32))])) _
          exact retN X13 hx (t := .boolean) Bd.returns (by simp) (hb hby at_83) hr
        · show Q0 Z p1 p2 s_NONE s_ALL s_KEYS h0 n0 _ T13.heap _
          rw [e13]
          exact ⟨rfl, N13⟩
    · obtain ⟨T14, X14, e14, st14⟩ := getS2 X0 hx hZ hown (host := "") (Or.inl (hw _ (List.mem_of_getElem? (i := 13) rfl))) Via.refl e0 S_ALL (g := (mkF m 30 #[.val (.int p1), .val (.int p2), .val (.int ((p1 &&& (2147483647 : Int32)) % (3 : Int32))), .unset, .unset] [])) rfl (hb hby at_30)
      obtain ⟨cq15, kq15, q15a, q15b, q15c⟩ := isOf hZ e14 E_s_ALL
      obtain ⟨_, _, ⟨T15, L15, k15, n15⟩, -, X15, ⟨Lc15, hQ15, l15, y15, z15⟩, st15⟩ := X14.virtualBack hx (y := (⟨"com/example/keep3/keep3/SerialForm$Hashed", "at", "(I)Z"⟩ : MethodName)) (z := (⟨"com/example/keep3/keep3/SerialForm$Hashed", "at", "(I)Z"⟩ : MethodName)) hown (mvT hZ (hw _ (List.mem_of_getElem? (i := 4) rfl))) (mvT hZ (hw _ (List.mem_of_getElem? (i := 5) rfl))) (notFace_of_selects (args := #[]) (mvT hZ (hw _ (List.mem_of_getElem? (i := 7) rfl)))) (mvT hZ (hw _ (List.mem_of_getElem? (i := 7) rfl))) (mvT hZ (hw _ (List.mem_of_getElem? (i := 6) rfl))) (by decide) (backOf (W := 0) (rm1 l Z a0 hw [] s_ALL p2 s_ALL s_KEYS h0 n0 Z0 S_ALL S_KEYS) hZ (hw _ (List.mem_of_getElem? (i := 8) rfl)) (hw _ (List.mem_of_getElem? (i := 2) rfl)) (by decide) (by decide)) q15a q15c (g := (mkF m 70 #[.val (.int p1), .val (.int p2), .val (.int ((p1 &&& (2147483647 : Int32)) % (3 : Int32))), .val (.ref s_ALL), .val (.int (1 : Int32))] [(.int p2), (.ref s_ALL)])) rfl (by rw [hml]; rfl) (Steps.refl _) (argsL := [(.int p2)]) (rest := []) (lenOf pd_0_0 rfl) rfl (by show 2 * 0 + _ ≤ _; exact Nat.le_of_eq rfl) (hb hby at_70) (fun _ _ => ⟨rfl, e14, (by decide : 0 + 0 ≤ _), (by decide : 0 + 0 ≤ _)⟩)
      dsimp only [Pt.U, Pt.locs, Pt.cells, Pt.slots] at X15 l15 y15 z15 st15 hQ15
      subst l15 y15 z15
      obtain ⟨rfl, N15q, e15⟩ := hQ15
      have N15 := Fr.app N0 N15q
      obtain ⟨fs, hr, hrun, hended, hW, hsame⟩ := X15.leave (v := some (.int (1 : Int32))) (fun h => by rw [Bd.returns] at h; cases h)
      refine ⟨_, _, pr8 _ ?_, hrun, hended, _, _, rfl, ?_, ⟨_, rfl⟩, hW, hsame.mono (by decide) (by decide)⟩
      · show Steps p.tables e below (s₁.setTop (mkF m 20 #[.val (.int p1), .val (.int p2), .val (.int ((p1 &&& (2147483647 : Int32)) % (3 : Int32))), .unset, .unset] [(.int (1 : Int32)), (.int ((p1 &&& (2147483647 : Int32)) % (3 : Int32)))])) _
        refine XS.icmpYes X0.here hx rfl (pc0 := 20) (pc' := 30) rfl (hb hby at_20) rfl (feq hc7).2 (by decide) (by decide) ?_
        show Steps p.tables e below (s₁.setTop (mkF m 30 #[.val (.int p1), .val (.int p2), .val (.int ((p1 &&& (2147483647 : Int32)) % (3 : Int32))), .unset, .unset] [])) _
        refine st14 _ ?_
        show Steps p.tables e below (T14.setTop (mkF m 33 #[.val (.int p1), .val (.int p2), .val (.int ((p1 &&& (2147483647 : Int32)) % (3 : Int32))), .unset, .unset] [(.ref s_ALL)])) _
        refine XS.astoreN X14.here hx rfl (hb hby at_33) rfl rfl (l' := #[.val (.int p1), .val (.int p2), .val (.int ((p1 &&& (2147483647 : Int32)) % (3 : Int32))), .val (.ref s_ALL), .unset]) rfl ?_
        show Steps p.tables e below (T14.setTop (mkF m 34 #[.val (.int p1), .val (.int p2), .val (.int ((p1 &&& (2147483647 : Int32)) % (3 : Int32))), .val (.ref s_ALL), .unset] [])) _
        refine XS.iloadN X14.here hx rfl (hb hby at_34) rfl ?_
        show Steps p.tables e below (T14.setTop (mkF m 35 #[.val (.int p1), .val (.int p2), .val (.int ((p1 &&& (2147483647 : Int32)) % (3 : Int32))), .val (.ref s_ALL), .unset] [(.int ((p1 &&& (2147483647 : Int32)) % (3 : Int32)))])) _
        refine XS.ifYes X14.here hx rfl (pc0 := 35) (pc' := 44) rfl (hb hby at_35) rfl ((if0 _ _).trans (feq hc3).2) (by decide) (by decide) ?_
        show Steps p.tables e below (T14.setTop (mkF m 44 #[.val (.int p1), .val (.int p2), .val (.int ((p1 &&& (2147483647 : Int32)) % (3 : Int32))), .val (.ref s_ALL), .unset] [])) _
        refine XS.iloadN X14.here hx rfl (hb hby at_44) rfl ?_
        show Steps p.tables e below (T14.setTop (mkF m 45 #[.val (.int p1), .val (.int p2), .val (.int ((p1 &&& (2147483647 : Int32)) % (3 : Int32))), .val (.ref s_ALL), .unset] [(.int ((p1 &&& (2147483647 : Int32)) % (3 : Int32)))])) _
        refine XS.iconst X14.here hx rfl (hb hby at_45) ?_
        show Steps p.tables e below (T14.setTop (mkF m 46 #[.val (.int p1), .val (.int p2), .val (.int ((p1 &&& (2147483647 : Int32)) % (3 : Int32))), .val (.ref s_ALL), .unset] [(.int (1 : Int32)), (.int ((p1 &&& (2147483647 : Int32)) % (3 : Int32)))])) _
        refine XS.icmpYes X14.here hx rfl (pc0 := 46) (pc' := 65) rfl (hb hby at_46) rfl (feq hc7).2 (by decide) (by decide) ?_
        show Steps p.tables e below (T14.setTop (mkF m 65 #[.val (.int p1), .val (.int p2), .val (.int ((p1 &&& (2147483647 : Int32)) % (3 : Int32))), .val (.ref s_ALL), .unset] [])) _
        refine XS.iconst X14.here hx rfl (hb hby at_65) ?_
        show Steps p.tables e below (T14.setTop (mkF m 66 #[.val (.int p1), .val (.int p2), .val (.int ((p1 &&& (2147483647 : Int32)) % (3 : Int32))), .val (.ref s_ALL), .unset] [(.int (1 : Int32))])) _
        refine XS.istore X14.here hx rfl (hb hby at_66) rfl (l' := #[.val (.int p1), .val (.int p2), .val (.int ((p1 &&& (2147483647 : Int32)) % (3 : Int32))), .val (.ref s_ALL), .val (.int (1 : Int32))]) rfl ?_
        show Steps p.tables e below (T14.setTop (mkF m 68 #[.val (.int p1), .val (.int p2), .val (.int ((p1 &&& (2147483647 : Int32)) % (3 : Int32))), .val (.ref s_ALL), .val (.int (1 : Int32))] [])) _
        refine XS.aloadN X14.here hx rfl (hb hby at_68) rfl rfl ?_
        show Steps p.tables e below (T14.setTop (mkF m 69 #[.val (.int p1), .val (.int p2), .val (.int ((p1 &&& (2147483647 : Int32)) % (3 : Int32))), .val (.ref s_ALL), .val (.int (1 : Int32))] [(.ref s_ALL)])) _
        refine XS.iloadN X14.here hx rfl (hb hby at_69) rfl ?_
        show Steps p.tables e below (T14.setTop (mkF m 70 #[.val (.int p1), .val (.int p2), .val (.int ((p1 &&& (2147483647 : Int32)) % (3 : Int32))), .val (.ref s_ALL), .val (.int (1 : Int32))] [(.int p2), (.ref s_ALL)])) _
        refine st15.trans ?_
        show Steps p.tables e below (T15.setTop (mkF m 73 #[.val (.int p1), .val (.int p2), .val (.int ((p1 &&& (2147483647 : Int32)) % (3 : Int32))), .val (.ref s_ALL), .val (.int (1 : Int32))] [(.int (own_f1 s_ALL p2 s_ALL s_KEYS))])) _
        refine XS.iload X15.here hx rfl (hb hby at_73) rfl ?_
        show Steps p.tables e below (T15.setTop (mkF m 75 #[.val (.int p1), .val (.int p2), .val (.int ((p1 &&& (2147483647 : Int32)) % (3 : Int32))), .val (.ref s_ALL), .val (.int (1 : Int32))] [(.int (1 : Int32)), (.int (own_f1 s_ALL p2 s_ALL s_KEYS))])) _
        refine XS.icmpNo X15.here hx rfl (hb hby at_75) rfl (teq (hq75_4 hc3 hc7)).2 ?_
        show Steps p.tables e below (T15.setTop (mkF m 78 #[.val (.int p1), .val (.int p2), .val (.int ((p1 &&& (2147483647 : Int32)) % (3 : Int32))), .val (.ref s_ALL), .val (.int (1 : Int32))] [])) _
        refine XS.iconst X15.here hx rfl (hb hby at_78) ?_
        show Steps p.tables e below (T15.setTop (mkF m 79 #[.val (.int p1), .val (.int p2), .val (.int ((p1 &&& (2147483647 : Int32)) % (3 : Int32))), .val (.ref s_ALL), .val (.int (1 : Int32))] [(.int (1 : Int32))])) _
        refine XS.goto X15.here hx rfl (pc0 := 79) (pc' := 83) rfl (hb hby at_79) (by decide) (by decide) ?_
        show Steps p.tables e below (T15.setTop (mkF m 83 #[.val (.int p1), .val (.int p2), .val (.int ((p1 &&& (2147483647 : Int32)) % (3 : Int32))), .val (.ref s_ALL), .val (.int (1 : Int32))] [(.int (1 : Int32))])) _
        exact retN X15 hx (t := .boolean) Bd.returns (by simp) (hb hby at_83) hr
      · show Q0 Z p1 p2 s_NONE s_ALL s_KEYS h0 n0 _ T15.heap _
        rw [e15]
        exact ⟨rfl, N15⟩
set_option maxRecDepth 65536 in
set_option maxHeartbeats 40000000 in
theorem comes_1 {Post : Tables → Env → Array Value → State → Outcome → State → Prop} (hpost : ∀ tb e args s v u, (limb_1_1.after args s (.returned v) u = true ∧ limb_1_2.after args s (.returned v) u = true ∧ True) → FrameEnd s (.returned v) u (Jvm.fieldLocs frame_1_writes args s ++ Jvm.arrayLocs frame_1_arrays args s ++ Jvm.staticLocs frame_1_statics s) 0 0 → Post tb e args s (.returned v) u) :
    ArmFor flags0 classFile x code maxLocals ret World_1 tables_1 room_1 Calls_1 rest_1 Pre_1 Post := by
  intro l hfl _ _ p e ha hc hk s m args below hf hA hF happ hP
  obtain ⟨hcalls, hrest, hpre⟩ := hP
  obtain ⟨-, -, -, hnamed, -, -, -, hat⟩ := (Spec.applies_iff hf).mp happ
  obtain ⟨hg, hn⟩ := and_e (Cond.before_iff.mp (show (Jvm.Cond.and given_1 narrow_1).before args s = true from hpre))
  obtain ⟨c1, c2⟩ := and_e hg
  obtain ⟨c3, c4⟩ := and_e c2
  obtain ⟨w0, w1, rfl⟩ : ∃ w0 w1 : Value, args = #[w0, w1] := by
    have hs : args.size = 2 := by simpa [Cond.value, given_1] using c1
    obtain ⟨L⟩ := args
    match L, hs with
    | [w0, w1], _ => exact ⟨w0, w1, rfl⟩
  have hw := fun d (hd : d ∈ tables_1) => atoms_spec (ws := Jvm.Cond.code x code maxLocals ret :: tables_1) hat d (List.mem_cons_of_mem _ hd)
  have hfit : Fit s := fun {y c} hc i hi => by
    obtain ⟨ha, rfl⟩ := Array.getElem?_eq_some_iff.mp hc
    have q := List.all_eq_true.mp ((Array.all_eq_true_iff_forall_mem.mp hF) _ (Array.getElem_mem ha)) i (List.mem_range.mpr hi)
    simpa [Array.getElem?_eq_getElem hi] using q
  obtain ⟨i0, ei0⟩ := is_v c3
  obtain rfl : w0 = (.int i0) := Option.some.inj ei0
  obtain ⟨i1, ei1⟩ := is_v c4
  obtain rfl : w1 = (.int i1) := Option.some.inj ei1
  obtain ⟨c5, c6⟩ := and_e hn
  obtain ⟨c7, c8⟩ := and_e c6
  obtain ⟨c9, c10⟩ := and_e c8
  obtain ⟨c11, c12⟩ := and_e c10
  obtain ⟨c13, c14⟩ := and_e c12
  obtain ⟨s_NONE, ev_NONE⟩ := exa_v c5
  have E_NONE := Exa.start ev_NONE c5
  have S_NONE := Sta.start ev_NONE (Or.inr ⟨(hw _ (List.mem_of_getElem? (i := 2) rfl)), (hw _ (List.mem_of_getElem? (i := 3) rfl))⟩)
  obtain ⟨s_ALL, ev_ALL⟩ := exa_v c7
  have E_ALL := Exa.start ev_ALL c7
  have S_ALL := Sta.start ev_ALL (Or.inr ⟨(hw _ (List.mem_of_getElem? (i := 2) rfl)), (hw _ (List.mem_of_getElem? (i := 10) rfl))⟩)
  obtain ⟨s_KEYS, ev_KEYS⟩ := exa_v c13
  have E_KEYS := Exa.start ev_KEYS c13
  have S_KEYS := Sta.start ev_KEYS (Or.inr ⟨(hw _ (List.mem_of_getElem? (i := 2) rfl)), (hw _ (List.mem_of_getElem? (i := 12) rfl))⟩)
  have F_NONE_ordinal := own_fldI ev_NONE c9
  have F_ALL_ordinal := own_fldI ev_ALL c11
  have F_KEYS_ordinal := own_fldI ev_KEYS c14
  have ne_s_NONE_s_KEYS : ¬ (s_NONE = s_KEYS) := Fld.ne F_NONE_ordinal F_KEYS_ordinal (by decide)
  have ne_s_NONE_s_ALL : ¬ (s_NONE = s_ALL) := Fld.ne F_NONE_ordinal F_ALL_ordinal (by decide)
  have ne_s_KEYS_s_NONE : ¬ (s_KEYS = s_NONE) := Fld.ne F_KEYS_ordinal F_NONE_ordinal (by decide)
  have ne_s_KEYS_s_ALL : ¬ (s_KEYS = s_ALL) := Fld.ne F_KEYS_ordinal F_ALL_ordinal (by decide)
  have ne_s_ALL_s_NONE : ¬ (s_ALL = s_NONE) := Fld.ne F_ALL_ordinal F_NONE_ordinal (by decide)
  have ne_s_ALL_s_KEYS : ¬ (s_ALL = s_KEYS) := Fld.ne F_ALL_ordinal F_KEYS_ordinal (by decide)
  have hq75_1 : (((i0 &&& (2147483647 : Int32)) % (3 : Int32)) = (0 : Int32)) → (own_f1 s_NONE i1 s_ALL s_KEYS) = (0 : Int32) := by intro _; unfold own_f1; rw [if_neg ne_s_NONE_s_ALL, if_neg ne_s_NONE_s_KEYS]
  have hq75_2 : (¬ (((i0 &&& (2147483647 : Int32)) % (3 : Int32)) = (0 : Int32))) → (((i0 &&& (2147483647 : Int32)) % (3 : Int32)) = (1 : Int32)) → ((i1 &&& (1 : Int32)) = (0 : Int32)) → (own_f1 s_KEYS i1 s_ALL s_KEYS) = (1 : Int32) := by intro _ _ q; unfold own_f1; rw [if_neg ne_s_KEYS_s_ALL, if_pos rfl, if_pos ((own_even i1).mp q)]
  have hq75_3 : (¬ (((i0 &&& (2147483647 : Int32)) % (3 : Int32)) = (0 : Int32))) → (((i0 &&& (2147483647 : Int32)) % (3 : Int32)) = (1 : Int32)) → (¬ ((i1 &&& (1 : Int32)) = (0 : Int32))) → (own_f1 s_KEYS i1 s_ALL s_KEYS) = (0 : Int32) := by intro _ _ q; unfold own_f1; rw [if_neg ne_s_KEYS_s_ALL, if_pos rfl, if_neg (fun z => q ((own_even i1).mpr z))]
  have hq75_4 : (¬ (((i0 &&& (2147483647 : Int32)) % (3 : Int32)) = (0 : Int32))) → (¬ (((i0 &&& (2147483647 : Int32)) % (3 : Int32)) = (1 : Int32))) → (own_f1 s_ALL i1 s_ALL s_KEYS) = (1 : Int32) := by intro _ _; unfold own_f1; rw [if_pos rfl]
  obtain ⟨n, o, h1, h2, h3, _, L, rfl, ⟨rfl, N⟩, hq⟩ := rm0 l s _ hw tables_1 i0 i1 s_NONE s_ALL s_KEYS s.heap s.heap.size (Nat.le_refl _) S_NONE E_NONE S_ALL S_KEYS hq75_1 E_KEYS hq75_2 hq75_3 E_ALL hq75_4 p e ha hc hk s m _ below hf ((Spec.applies_iff_loose hf).mp happ).1 ⟨rfl, State.Warmed39.refl s, rfl⟩ trivial
  refine ⟨n, _, h1, h2, h3, hpost _ _ _ _ _ _ ⟨Cond.after_iff.mpr rfl, Cond.after_iff.mpr (eq_i res_at (Term.int_eval (1)) rfl), trivial⟩ ⟨hq.1, hq.2.1, (hq.2.2.sift fun y hy => Or.inr (N y hy)).mono (by decide) (by decide)⟩⟩
theorem main_1_1 : Claimed_1_1 := comes_1 fun _ _ _ _ _ _ h hF => ⟨h.1, hF⟩
theorem main_1_2 : Claimed_1_2 := comes_1 fun _ _ _ _ _ _ h hF => ⟨h.2.1, hF⟩
end Jvm.Pilot.@@N@@
namespace Jvm.Pilot.@@N@@
open Jvm Jvm.ClassFile Sem Op Lib Jvm.Free Jvm.Stand Jvm.Pilot.@@N@@.Jvm.D
/-! MADE BY PROGRAM (witnessworld.py) out of the Statement's table words and the real class files: 12 classes; the members and pool entries that the words name. The judged class is class 1, her method 1. -/
namespace start1
open Jvm.ClassFile
def u (s : String) : CpInfo := .utf8 (stringToUtf16 s)
/-- a pool by its gaps: so many unusable entries, then the entry; so many at the end -/
def gap : Nat → List CpInfo → List CpInfo
  | 0, r => r
  | n + 1, r => .unusable :: gap n r
def poolList (es : List (Nat × CpInfo)) (last : Nat) : List CpInfo := es.foldr (fun e r => gap e.1 (e.2 :: r)) (gap last [])
def pool (es : List (Nat × CpInfo)) (last : Nat) : Array CpInfo := ⟨poolList es last⟩
def fileOf (pool : Array CpInfo) (this : Nat) (attrs : Array Attribute := #[]) (ms : Array MethodInfo := #[]) (fl : Nat := 33) (sup : Nat := 0) (ifs : Array Nat := #[]) (fds : Array FieldInfo := #[]) : ClassFile where
  minorVersion := 0
  majorVersion := 65
  constantPool := pool
  accessFlags := fl
  thisClass := this
  superClass := sup
  interfaces := ifs
  fields := fds
  methods := ms
  attributes := attrs
def plain (name : String) (sup : Option ClassId) : Class where
  name := name
  kind := .ordinary
  loader := none
  accessFlags := 33
  super := sup
  interfaces := #[]
  cf := none
  fields := #[]
  methods := #[]
  instanceTypes := #[]
  staticTypes := #[]
  resolved := #[]
  callSites := []
  init := .initialized
  statics := none
  mirror := none

def pool0 : Array CpInfo := pool [(5, u "<init>"), (0, u "()V"), (1, .class_ 10), (1, u "java/lang/Object")] 113

def k0m0 : Method := { name := "<init>", desc := "()V", sig := { parameters := [], returnType := none }, accessFlags := 1, code := none }
/-- java/lang/Object -/
def k0 : Class := { plain "java/lang/Object" none with
  accessFlags := 33
  interfaces := #[]
  cf := some (fileOf pool0 8 #[] #[{ accessFlags := 1, nameIndex := 5, descriptorIndex := 6, attributes := #[] }] 33 0 #[] #[])
  fields := #[]
  methods := #[k0m0]
  instanceTypes := #[]
  staticTypes := #[]
  resolved := Array.replicate 124 none
  statics := none }

def pool1 : Array CpInfo := pool [(2, .class_ 4), (1, u "java/lang/Object"), (0, u "<init>"), (0, u "()V"), (0, .integer 2147483647), (0, .fieldref 9 10), (0, .class_ 11), (0, .nameAndType 12 13), (0, u "com/example/keep3/keep3/SerialForm$Hashed"), (0, u "NONE"), (0, u "Lcom/example/keep3/keep3/SerialForm$Hashed;"), (0, .fieldref 9 15), (0, .nameAndType 16 13), (0, u "KEYS"), (0, .fieldref 9 18), (0, .nameAndType 19 13), (0, u "ALL"), (0, .methodref 9 21), (0, .nameAndType 22 23), (0, u "at"), (0, u "(I)Z"), (0, .class_ 25), (0, u "com/example/keep3/keep3/HashedAtPinLaw"), (2, u "law"), (0, u "(II)Z")] 7

def k1m0 : Method := { name := "<init>", desc := "()V", sig := { parameters := [], returnType := none }, accessFlags := 1, code := none }
def k1c1 : Code := { maxStack := 2, maxLocals := 5, code := code, exceptionTable := #[], attributes := #[] }
def k1m1 : Method := { name := "law", desc := "(II)Z", sig := { parameters := [.int, .int], returnType := some .boolean }, accessFlags := 9, code := some k1c1 }
/-- com/example/keep3/keep3/HashedAtPinLaw -/
def k1 : Class := { plain "com/example/keep3/keep3/HashedAtPinLaw" (some 0) with
  accessFlags := 49
  interfaces := #[]
  cf := some (fileOf pool1 24 #[] #[{ accessFlags := 1, nameIndex := 5, descriptorIndex := 6, attributes := #[] }, { accessFlags := 9, nameIndex := 28, descriptorIndex := 29, attributes := #[] }] 49 2 #[] #[])
  fields := #[]
  methods := #[k1m0, k1m1]
  instanceTypes := #[]
  staticTypes := #[]
  resolved := Array.replicate 37 none
  statics := none }

def pool2 : Array CpInfo := pool [(1, .class_ 2), (0, u "java/lang/constant/Constable"), (0, .class_ 4), (0, u "java/lang/Object")] 6

/-- java/lang/constant/Constable -/
def k2 : Class := { plain "java/lang/constant/Constable" (some 0) with
  accessFlags := 1537
  interfaces := #[]
  cf := some (fileOf pool2 1 #[] #[] 1537 3 #[] #[])
  fields := #[]
  methods := #[]
  instanceTypes := #[]
  staticTypes := #[]
  resolved := Array.replicate 11 none
  statics := none }

def pool3 : Array CpInfo := pool [(1, .class_ 2), (0, u "java/lang/Comparable"), (0, .class_ 4), (0, u "java/lang/Object")] 7

/-- java/lang/Comparable -/
def k3 : Class := { plain "java/lang/Comparable" (some 0) with
  accessFlags := 1537
  interfaces := #[]
  cf := some (fileOf pool3 1 #[] #[] 1537 3 #[] #[])
  fields := #[]
  methods := #[]
  instanceTypes := #[]
  staticTypes := #[]
  resolved := Array.replicate 12 none
  statics := none }

def pool4 : Array CpInfo := pool [(1, .class_ 2), (0, u "java/io/Serializable"), (0, .class_ 4), (0, u "java/lang/Object")] 2

/-- java/io/Serializable -/
def k4 : Class := { plain "java/io/Serializable" (some 0) with
  accessFlags := 1537
  interfaces := #[]
  cf := some (fileOf pool4 1 #[] #[] 1537 3 #[] #[])
  fields := #[]
  methods := #[]
  instanceTypes := #[]
  staticTypes := #[]
  resolved := Array.replicate 7 none
  statics := none }

def pool5 : Array CpInfo := pool [(2, .class_ 4), (1, u "java/lang/Enum"), (0, u "name"), (0, u "Ljava/lang/String;"), (2, u "ordinal"), (0, u "I"), (1, .class_ 14), (1, u "java/lang/Object"), (4, u "hash"), (86, .class_ 108), (1, u "java/lang/Enum$EnumDesc"), (2, .class_ 112), (0, u "java/lang/constant/Constable"), (0, .class_ 114), (0, u "java/lang/Comparable"), (0, .class_ 116), (0, u "java/io/Serializable")] 87

/-- java/lang/Enum -/
def k5 : Class := { plain "java/lang/Enum" (some 0) with
  accessFlags := 1057
  interfaces := #[2, 3, 4]
  cf := some (fileOf pool5 2 #[.nestMembers #[106]] #[] 1057 12 #[111, 113, 115] #[{ accessFlags := 18, nameIndex := 5, descriptorIndex := 6, attributes := #[] }, { accessFlags := 18, nameIndex := 9, descriptorIndex := 10, attributes := #[] }, { accessFlags := 2, nameIndex := 19, descriptorIndex := 10, attributes := #[] }])
  fields := #[{ name := "name", type := (.object "java/lang/String"), accessFlags := 18, slot := 0, constantValue := 0 }, { name := "ordinal", type := .int, accessFlags := 18, slot := 1, constantValue := 0 }, { name := "hash", type := .int, accessFlags := 2, slot := 2, constantValue := 0 }]
  methods := #[]
  instanceTypes := #[(.object "java/lang/String"), .int, .int]
  staticTypes := #[]
  resolved := Array.replicate 204 none
  statics := none }

def pool6 : Array CpInfo := pool [(1, .class_ 2), (0, u "com/example/keep3/keep3/SerialForm$Hashed"), (2, u "NONE"), (0, u "Lcom/example/keep3/keep3/SerialForm$Hashed;"), (0, .fieldref 1 8), (0, .nameAndType 9 6), (0, u "KEYS"), (0, .fieldref 1 11), (0, .nameAndType 12 6), (0, u "ALL"), (2, u "$VALUES"), (0, u "[Lcom/example/keep3/keep3/SerialForm$Hashed;"), (6, .class_ 25), (1, u "java/lang/Enum"), (21, u "at"), (0, u "(I)Z"), (6, .class_ 56), (0, u "com/example/keep3/keep3/SerialForm")] 2

def k6c0 : Code := { maxStack := 2, maxLocals := 2, code := prog_9_method_4_code, exceptionTable := #[], attributes := #[] }
def k6m0 : Method := { name := "at", desc := "(I)Z", sig := { parameters := [.int], returnType := some .boolean }, accessFlags := 0, code := some k6c0 }
/-- com/example/keep3/keep3/SerialForm$Hashed -/
def k6 : Class := { plain "com/example/keep3/keep3/SerialForm$Hashed" (some 5) with
  accessFlags := 16432
  interfaces := #[]
  cf := some (fileOf pool6 1 #[.nestHost 55] #[{ accessFlags := 0, nameIndex := 47, descriptorIndex := 48, attributes := #[] }] 16432 23 #[] #[{ accessFlags := 16409, nameIndex := 5, descriptorIndex := 6, attributes := #[] }, { accessFlags := 16409, nameIndex := 9, descriptorIndex := 6, attributes := #[] }, { accessFlags := 16409, nameIndex := 12, descriptorIndex := 6, attributes := #[] }, { accessFlags := 4122, nameIndex := 15, descriptorIndex := 16, attributes := #[] }])
  fields := #[{ name := "NONE", type := (.object "com/example/keep3/keep3/SerialForm$Hashed"), accessFlags := 16409, slot := 0, constantValue := 0 }, { name := "KEYS", type := (.object "com/example/keep3/keep3/SerialForm$Hashed"), accessFlags := 16409, slot := 1, constantValue := 0 }, { name := "ALL", type := (.object "com/example/keep3/keep3/SerialForm$Hashed"), accessFlags := 16409, slot := 2, constantValue := 0 }, { name := "$VALUES", type := (.array (.object "com/example/keep3/keep3/SerialForm$Hashed")), accessFlags := 4122, slot := 3, constantValue := 0 }]
  methods := #[k6m0]
  instanceTypes := #[(.object "java/lang/String"), .int, .int]
  staticTypes := #[(.object "com/example/keep3/keep3/SerialForm$Hashed"), (.object "com/example/keep3/keep3/SerialForm$Hashed"), (.object "com/example/keep3/keep3/SerialForm$Hashed"), (.array (.object "com/example/keep3/keep3/SerialForm$Hashed"))]
  resolved := Array.replicate 59 none
  statics := some 0 }

def pool7 : Array CpInfo := pool [(1, u "java/lang/Cloneable"), (0, .class_ 1), (0, u "java/lang/Object"), (0, .class_ 3)] 3

/-- java/lang/Cloneable -/
def k7 : Class := { plain "java/lang/Cloneable" (some 0) with
  accessFlags := 1537
  interfaces := #[]
  cf := some (fileOf pool7 2 #[] #[] 1537 4 #[] #[])
  fields := #[]
  methods := #[]
  instanceTypes := #[]
  staticTypes := #[]
  resolved := Array.replicate 8 none
  statics := none }

/-- the primitive byte -/
def k8 : Class := { plain "byte" none with kind := .primitive 'B', accessFlags := 0x411 }
/-- [B -/
def k9 : Class := { plain "[B" (some 0) with kind := .array 8 .byte, interfaces := #[7, 4], accessFlags := 1041 }

/-- the primitive int -/
def k10 : Class := { plain "int" none with kind := .primitive 'I', accessFlags := 0x411 }
/-- [I -/
def k11 : Class := { plain "[I" (some 0) with kind := .array 10 .int, interfaces := #[7, 4], accessFlags := 1041 }

def heap : Heap := #[{ cls := 6, slots := #[.ref 1, .ref 3, .ref 2, .null], vm := .statics 6 },
  { cls := 6, slots := #[.null, .int 0, .int 0], vm := .none },
  { cls := 6, slots := #[.null, .int 2, .int 0], vm := .none },
  { cls := 6, slots := #[.null, .int 1, .int 0], vm := .none }]
def classes : Array Class := #[k0, k1, k2, k3, k4, k5, k6, k7, k8, k9, k10, k11]
def interned : List (Array UInt16 × Addr) := []
def slotsUsed : Nat := 13
def theMethod : MethodId := ⟨1, 1⟩
def args0 : Array Value := #[.int 5, .int 6]
def aboutOver (below : List Frame) : State where
  vm := { classes := classes, interned := interned.toArray }
  heap := heap
  slotsUsed := slotsUsed
  threads := #[{ frames := .invoking theMethod args0 :: below }]
def below0 : List Frame := [.native { method := ⟨0, 0⟩, args := #[] }]
def about1 : State := aboutOver below0
def p0 : Program := .bare "" "" ""
def e0 : Env := launch0.env 0 0 0
theorem w_frames : about1.frames = Frame.invoking theMethod args0 :: below0 := rfl
set_option maxRecDepth 65536 in
theorem w_args : argsFit about1.vm theMethod args0 = true := by decide +kernel
set_option maxRecDepth 65536 in
theorem w_heap : heapFits about1 = true := by decide +kernel
set_option maxRecDepth 65536 in
theorem w_runnable : about1.curStatus? = some .runnable := by decide +kernel
set_option maxRecDepth 65536 in
theorem w_alone : about1.alone = true := by decide +kernel
set_option maxRecDepth 65536 in
theorem w_named : about1.methodNamed? x = some theMethod := by decide +kernel
set_option maxRecDepth 65536 in
theorem w_hears : about1.hears theMethod below0 = true := by decide +kernel
set_option maxRecDepth 65536 in
theorem w_ripe : about1.ripe theMethod args0 below0 = true := by decide +kernel
theorem w_running : about1.status = .running := rfl
set_option maxRecDepth 65536 in
theorem w_room : about1.hasRoom e0.platform room_1 = true :=
  launch0.hasRoom_least _ room_1 (by decide +kernel) (by decide +kernel) (by decide +kernel) (by decide +kernel) (by decide +kernel) (by decide +kernel)
theorem allAtoms_all (ts : List Jvm.Cond) (a : Array Jvm.Value) (st : Jvm.State) : (allAtoms ts).before a st = ts.all (fun c => c.before a st) := by
  induction ts with
  | nil => rfl
  | cons c t ih =>
    show (Jvm.Cond.and c (allAtoms t)).before a st = _
    rw [Jvm.Cond.before_and, ih, List.all_cons]
def words1 : List Jvm.Cond := Jvm.Cond.code x code maxLocals ret :: tables_1
/-- a 'code' word, met by the world's own term for the bytes: nothing is compared byte by byte -/
theorem code_word {y : MethodName} {bytes : ByteArray} {mx : Nat} {rt : Option FieldType} {a : Array Value} {s : State} {m : MethodId} {meth : Method} {c : Code} (h1 : s.methodNamed? y = some m) (h2 : s.vm.method? m = some meth) (h3 : meth.code = some c) (h4 : c.code = bytes)
    (h5 : (c.maxLocals == mx && c.exceptionTable.isEmpty && decide (c.maxStack ≤ mostOperands) && decide (meth.sig.returnType = rt) && !meth.locks && decide (parseMethodDescriptor y.desc = some meth.sig)) = true) : (Jvm.Cond.code y bytes mx rt).before a s = true := by
  simp only [Bool.and_eq_true, beq_iff_eq, Bool.not_eq_true', decide_eq_true_eq] at h5
  obtain ⟨⟨⟨⟨⟨g1, g2⟩, g3⟩, g4⟩, g5⟩, g6⟩ := h5
  simp [Cond.before, Cond.holds, Cond.value, h1, h2, h3, h4, g1, g2, g3, g4, g5, g6]
def isCode : Jvm.Cond → Bool
  | .code _ _ _ _ => true
  | _ => false
theorem all_split {L : List Jvm.Cond} {P : Jvm.Cond → Bool} (h1 : L.all (fun c => isCode c || P c) = true) (h2 : ∀ c ∈ L.filter isCode, P c = true) : L.all P = true := by
  refine List.all_eq_true.mpr fun c hc => ?_
  have h := List.all_eq_true.mp h1 c hc
  rcases Bool.eq_false_or_eq_true (isCode c) with hi | hi
  · exact h2 c (List.mem_filter.mpr ⟨hc, hi⟩)
  · simpa [hi] using h
set_option maxRecDepth 65536 in
theorem w_c0 : (Jvm.Cond.code x code maxLocals ret).before args0 about1 = true := code_word (m := ⟨1, 1⟩) (meth := k1m1) (c := k1c1) (by decide +kernel) rfl rfl rfl (by decide +kernel)
set_option maxRecDepth 65536 in
theorem w_c1 : (Jvm.Cond.code ({ cls := "com/example/keep3/keep3/SerialForm$Hashed", name := "at", desc := "(I)Z" } : Jvm.MethodName) prog_9_method_4_code (2 : Nat) (Option.some Jvm.ClassFile.FieldType.boolean)).before args0 about1 = true := code_word (m := ⟨6, 0⟩) (meth := k6m0) (c := k6c0) (by decide +kernel) rfl rfl rfl (by decide +kernel)
def codes1 : List Jvm.Cond := [Jvm.Cond.code x code maxLocals ret, Jvm.Cond.code ({ cls := "com/example/keep3/keep3/SerialForm$Hashed", name := "at", desc := "(I)Z" } : Jvm.MethodName) prog_9_method_4_code (2 : Nat) (Option.some Jvm.ClassFile.FieldType.boolean)]
set_option maxRecDepth 65536 in
theorem codes_eq : words1.filter isCode = codes1 := rfl
theorem w_codes : ∀ c ∈ words1.filter isCode, c.before args0 about1 = true := by
  rw [codes_eq]
  intro c hc
  simp only [codes1, List.mem_cons, List.not_mem_nil, or_false] at hc
  rcases hc with rfl | rfl
  · exact w_c0
  · exact w_c1
set_option maxRecDepth 65536 in
theorem w_t1 : words1.all (fun c => isCode c || c.before args0 about1) = true := by decide +kernel
theorem w_tables : (allAtoms (Jvm.Cond.code x code maxLocals ret :: tables_1)).before args0 about1 = true := by
  rw [allAtoms_all]
  show words1.all (fun c => c.before args0 about1) = true
  refine all_split ?_ w_codes
  rw [w_t1]
set_option maxRecDepth 65536 in
theorem w_case : (Jvm.Cond.and given_1 narrow_1).before args0 about1 = true := by decide +kernel
theorem w_applies : (headSpec (Jvm.Cond.code x code maxLocals ret :: tables_1) room_1).applies x e0.platform about1 = true :=
  (Spec.applies_iff w_frames).mpr ⟨w_running, w_runnable, w_alone, w_named, w_hears, w_ripe, w_room, w_tables⟩
theorem atStart : AtStart classFile x code maxLocals ret World_1 tables_1 room_1 Calls_1 rest_1 Pre_1 launch0 p0 e0 about1 theMethod args0 below0 :=
  ⟨lists_1, trivial, launch0.admits_env _ _ _, launch0.least_env, fairChoices_fair.cas, fairChoices_fair.clock, w_frames, w_args, w_heap, w_applies, trivial, trivial, w_case⟩
end start1
theorem witness_1 : WitnessClaimed_1 := ⟨start1.p0, start1.e0, start1.about1, start1.theMethod, start1.args0, start1.below0, start1.atStart⟩
end Jvm.Pilot.@@N@@
