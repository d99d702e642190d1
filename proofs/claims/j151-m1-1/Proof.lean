import JvmDerived
import JvmDerived.Pilot.@@N@@Statement
import JvmDerived.Pilot.@@N@@Code
set_option linter.unusedVariables false
set_option linter.unusedSimpArgs false
namespace Jvm.Pilot.@@N@@
open Jvm Jvm.ClassFile Sem Op Lib Jvm.Free Jvm.Stand Jvm.LawKit Jvm.RoadKit Bundle Jvm.Pilot.@@N@@.Jvm.D
theorem own_fldI {Z : State} {args : Array Value} {t : Term} {a : Addr} {C n d : String} {z : Int32} (ev : t.eval args Z none [] Z = some (.ref a)) (h : (Cond.eq (Term.field t C n d) (Term.int z)).value args Z none Z [] = some true) : Fld Z Z.heap a C n d (.int z) := by
  obtain ⟨x, y, h1, h2, k1, k2⟩ := cmp_v (Or.inl h)
  have e2 : y = .int z := (Option.some.inj h2).symm
  subst e2
  obtain ⟨w, rfl⟩ := k2
  have hq : (Cond.eq (Term.field t C n d) (Term.int z)).value args Z none Z [] = some (decide (w = z)) := by simp [Cond.value, h1, h2]
  have hw : w = z := gotT hq h
  subst hw
  exact Fld.start ((fld_at ev).symm.trans h1)
theorem own_fldJ {Z : State} {args : Array Value} {t : Term} {a : Addr} {C n d : String} {z : Int64} (ev : t.eval args Z none [] Z = some (.ref a)) (h : (Cond.eq (Term.field t C n d) (Term.long z)).value args Z none Z [] = some true) : Fld Z Z.heap a C n d (.long z) := by
  obtain ⟨x, y, h1, h2, k1, k2⟩ := cmp_v (Or.inl h)
  have e2 : y = .long z := (Option.some.inj h2).symm
  subst e2
  obtain ⟨w, rfl⟩ := k2
  have hq : (Cond.eq (Term.field t C n d) (Term.long z)).value args Z none Z [] = some (decide (w = z)) := eq_L h1 h2
  have hw : w = z := gotT hq h
  subst hw
  exact Fld.start ((fld_at ev).symm.trans h1)
theorem own_arrKeep {Z : State} {h h' : Heap} {ws : List Addr} {a : Addr} {c : Cell} {ty : FieldType} (F : Arr Z h a c ty) (K : Keep h h' ws) (q : a ∉ ws) : Arr Z h' a c ty := ⟨K.2.1 _ _ F.1 q, F.2⟩
theorem own_staKeep {Z : State} {h h' : Heap} {ws : List Addr} {C n d : String} {v : Value} (F : Sta Z h C n d v) (K : Keep h h' ws) (q : ∀ x ∈ ws, ∀ c : Cell, h[x]? = some c → c.vm.isStatics = false) : Sta Z h' C n d v := by
  obtain ⟨cf, i, k, f, st, cell, h1, h2, h3, h4, h5, h6, h7⟩ := F
  exact ⟨cf, i, k, f, st, cell, h1, h2, h3, h4, K.2.1 _ _ h5 (fun z => by rw [q _ z _ h5] at h6; cases h6), h6, h7⟩
theorem own_mask31 (x : Int32) : 0 ≤ (x &&& 2147483647).toInt := by
  have h := c_mask x 2147483647 31 (by decide) (by decide)
  rw [h]; exact Int.emod_nonneg _ (by decide)
theorem own_mod (x : Int32) (y : Int32) (d : Int) (hy : y.toInt = d) (hd : 0 < d) : 0 ≤ ((x &&& 2147483647) % y).toInt ∧ ((x &&& 2147483647) % y).toInt < d := by
  have h := (c_irem (x &&& 2147483647) y d hy).1 (own_mask31 x)
  rw [h]; exact ⟨Int.emod_nonneg _ (by omega), Int.emod_lt_of_pos _ hd⟩
theorem own_and (x m : Int32) (hm : 0 ≤ m.toInt) : 0 ≤ (x &&& m).toInt ∧ (x &&& m).toInt ≤ m.toInt := c_and x m hm
theorem own_upto15 (y : Int32) (h0 : 0 ≤ y.toInt) (h1 : y.toInt < 15) : y = 0 ∨ y = 1 ∨ y = 2 ∨ y = 3 ∨ y = 4 ∨ y = 5 ∨ y = 6 ∨ y = 7 ∨ y = 8 ∨ y = 9 ∨ y = 10 ∨ y = 11 ∨ y = 12 ∨ y = 13 ∨ y = 14 := by
  have h : y.toInt = 0 ∨ y.toInt = 1 ∨ y.toInt = 2 ∨ y.toInt = 3 ∨ y.toInt = 4 ∨ y.toInt = 5 ∨ y.toInt = 6 ∨ y.toInt = 7 ∨ y.toInt = 8 ∨ y.toInt = 9 ∨ y.toInt = 10 ∨ y.toInt = 11 ∨ y.toInt = 12 ∨ y.toInt = 13 ∨ y.toInt = 14 := by omega
  rcases h with h | h | h | h | h | h | h | h | h | h | h | h | h | h | h
  · exact Or.inl (Int32.toInt_inj.mp (h.trans rfl))
  · exact Or.inr (Or.inl (Int32.toInt_inj.mp (h.trans rfl)))
  · exact Or.inr (Or.inr (Or.inl (Int32.toInt_inj.mp (h.trans rfl))))
  · exact Or.inr (Or.inr (Or.inr (Or.inl (Int32.toInt_inj.mp (h.trans rfl)))))
  · exact Or.inr (Or.inr (Or.inr (Or.inr (Or.inl (Int32.toInt_inj.mp (h.trans rfl))))))
  · exact Or.inr (Or.inr (Or.inr (Or.inr (Or.inr (Or.inl (Int32.toInt_inj.mp (h.trans rfl)))))))
  · exact Or.inr (Or.inr (Or.inr (Or.inr (Or.inr (Or.inr (Or.inl (Int32.toInt_inj.mp (h.trans rfl))))))))
  · exact Or.inr (Or.inr (Or.inr (Or.inr (Or.inr (Or.inr (Or.inr (Or.inl (Int32.toInt_inj.mp (h.trans rfl)))))))))
  · exact Or.inr (Or.inr (Or.inr (Or.inr (Or.inr (Or.inr (Or.inr (Or.inr (Or.inl (Int32.toInt_inj.mp (h.trans rfl))))))))))
  · exact Or.inr (Or.inr (Or.inr (Or.inr (Or.inr (Or.inr (Or.inr (Or.inr (Or.inr (Or.inl (Int32.toInt_inj.mp (h.trans rfl)))))))))))
  · exact Or.inr (Or.inr (Or.inr (Or.inr (Or.inr (Or.inr (Or.inr (Or.inr (Or.inr (Or.inr (Or.inl (Int32.toInt_inj.mp (h.trans rfl))))))))))))
  · exact Or.inr (Or.inr (Or.inr (Or.inr (Or.inr (Or.inr (Or.inr (Or.inr (Or.inr (Or.inr (Or.inr (Or.inl (Int32.toInt_inj.mp (h.trans rfl)))))))))))))
  · exact Or.inr (Or.inr (Or.inr (Or.inr (Or.inr (Or.inr (Or.inr (Or.inr (Or.inr (Or.inr (Or.inr (Or.inr (Or.inl (Int32.toInt_inj.mp (h.trans rfl))))))))))))))
  · exact Or.inr (Or.inr (Or.inr (Or.inr (Or.inr (Or.inr (Or.inr (Or.inr (Or.inr (Or.inr (Or.inr (Or.inr (Or.inr (Or.inl (Int32.toInt_inj.mp (h.trans rfl)))))))))))))))
  · exact Or.inr (Or.inr (Or.inr (Or.inr (Or.inr (Or.inr (Or.inr (Or.inr (Or.inr (Or.inr (Or.inr (Or.inr (Or.inr (Or.inr ((Int32.toInt_inj.mp (h.trans rfl))))))))))))))))
def own_f1 (a1 : Addr) (s_LIST : Addr) (s_SET : Addr) (s_MAP : Addr) (s_WRAPPED : Addr) : Int32 := (if a1 = s_LIST then (1 : Int32) else (if a1 = s_SET then (1 : Int32) else (if a1 = s_MAP then (1 : Int32) else (if a1 = s_WRAPPED then (1 : Int32) else (0 : Int32)))))
theorem d1_0 : decode prog_8_method_4_code 0 = .ok (.aload_n 0, 1) := by decide +kernel
theorem d1_1 : decode prog_8_method_4_code 1 = .ok (.getstatic 3, 3) := by decide +kernel
theorem d1_4 : decode prog_8_method_4_code 4 = .ok (.if_acmp .eq 24, 3) := by decide +kernel
theorem d1_7 : decode prog_8_method_4_code 7 = .ok (.aload_n 0, 1) := by decide +kernel
theorem d1_8 : decode prog_8_method_4_code 8 = .ok (.getstatic 7, 3) := by decide +kernel
theorem d1_11 : decode prog_8_method_4_code 11 = .ok (.if_acmp .eq 17, 3) := by decide +kernel
theorem d1_14 : decode prog_8_method_4_code 14 = .ok (.aload_n 0, 1) := by decide +kernel
theorem d1_15 : decode prog_8_method_4_code 15 = .ok (.getstatic 10, 3) := by decide +kernel
theorem d1_18 : decode prog_8_method_4_code 18 = .ok (.if_acmp .eq 10, 3) := by decide +kernel
theorem d1_21 : decode prog_8_method_4_code 21 = .ok (.aload_n 0, 1) := by decide +kernel
theorem d1_22 : decode prog_8_method_4_code 22 = .ok (.getstatic 13, 3) := by decide +kernel
theorem d1_25 : decode prog_8_method_4_code 25 = .ok (.if_acmp .ne 7, 3) := by decide +kernel
theorem d1_28 : decode prog_8_method_4_code 28 = .ok (.iconst 1, 1) := by decide +kernel
theorem d1_29 : decode prog_8_method_4_code 29 = .ok (.goto 4, 3) := by decide +kernel
theorem d1_32 : decode prog_8_method_4_code 32 = .ok (.iconst 0, 1) := by decide +kernel
theorem d1_33 : decode prog_8_method_4_code 33 = .ok (.ireturn, 1) := by decide +kernel
theorem pn_1 : plainName "com/example/keep3/keep3/SerialForm$Hash" = true := by first | (simp [plainName, overriddenIn]; done) | decide +kernel
theorem ef_1 (m : MethodId) (x0 : Addr) : entryFrame m #[(.ref x0)] 1 = mkF m 0 #[.val (.ref x0)] [] := by first | (simp [entryFrame, mkF, argsToLocals, Value.category]; done) | rfl
def Q1 (Z : State) (a1 : Addr) (s_LIST : Addr) (s_SET : Addr) (s_MAP : Addr) (s_WRAPPED : Addr) (h0 : Heap) (n0 : Nat) (v : Option Value) (h : Heap) (L : List Loc) : Prop := v = some (.int (own_f1 a1 s_LIST s_SET s_MAP s_WRAPPED)) ∧ Fr n0 L ∧ h = h0
set_option maxRecDepth 65536 in
set_option maxHeartbeats 40000000 in
theorem rm1 (l : Launch) (Z : State) (a0 : Array Value) (hw : ∀ d ∈ tables_1, d.before a0 Z = true) (ws : List Jvm.Cond) (a1 : Addr) (s_LIST : Addr) (s_SET : Addr) (s_MAP : Addr) (s_WRAPPED : Addr) (h0 : Heap) (n0 : Nat) (Z0 : n0 ≤ h0.size) (S_LIST : Sta Z h0 "com/example/keep3/keep3/SerialForm$Hash" "LIST" "Lcom/example/keep3/keep3/SerialForm$Hash;" (.ref s_LIST)) (S_SET : Sta Z h0 "com/example/keep3/keep3/SerialForm$Hash" "SET" "Lcom/example/keep3/keep3/SerialForm$Hash;" (.ref s_SET)) (S_MAP : Sta Z h0 "com/example/keep3/keep3/SerialForm$Hash" "MAP" "Lcom/example/keep3/keep3/SerialForm$Hash;" (.ref s_MAP)) (S_WRAPPED : Sta Z h0 "com/example/keep3/keep3/SerialForm$Hash" "WRAPPED" "Lcom/example/keep3/keep3/SerialForm$Hash;" (.ref s_WRAPPED)) :
    MetFree l (⟨"com/example/keep3/keep3/SerialForm$Hash", "ofElements", "()Z"⟩ : MethodName) (head1 (Jvm.Cond.code (⟨"com/example/keep3/keep3/SerialForm$Hash", "ofElements", "()Z"⟩ : MethodName) prog_8_method_4_code 1 (some .boolean) :: ws) ({ frames := 0, cells := 0, slots := 0, locals := 0 } : Room)) (fun a U => a = #[(.ref a1)] ∧ Z.Warmed39 U.vm ∧ U.heap = h0) (fun _ _ _ _ _ => True) (fun _ U o U' => ∃ v L, o = .returned v ∧ Q1 Z a1 s_LIST s_SET s_MAP s_WRAPPED h0 n0 v U'.heap L ∧ FrameEnd U o U' L ({ frames := 0, cells := 0, slots := 0, locals := 0 } : Room).cells ({ frames := 0, cells := 0, slots := 0, locals := 0 } : Room).slots) := by
  refine MetFree.of_bodySF (plainFor_of_name pn_1) hisR ?_
  intro p e s m args below meth c s₁ Bd hml0 hP hK
  obtain ⟨rfl, hZ, hh⟩ := hP
  have hx := Bd.exec
  have hby := Bd.bytes
  have hml : c.maxLocals = 1 := hml0
  have hown : s.vm.findClass "com/example/keep3/keep3/SerialForm$Hash" = some m.cls := findClass_of_methodNamed Bd.named
  have hnm := (name_of_methodNamed Bd.named Bd.method).1
  have X0 : Stand p l e ({ frames := 0, cells := 0, slots := 0, locals := 0 } : Room) s m #[(.ref a1)] below meth c s₁ [] 0 0 := Stand.of_body Bd
  have e0 : s₁.heap = h0 := by rw [← hh, Bd.state]; rfl
  have N0 := Fr.nil n0
  have pre0 : ∀ t, Steps p.tables e below (s₁.setTop (mkF m 0 #[.val (.ref a1)] [])) t → Steps p.tables e below (s₁.setTop (entryFrame m #[(.ref a1)] 1)) t := fun t k => castTop (ef_1 m a1) k
  obtain ⟨T2, X2, e2, st2⟩ := getS2 X0 hx hZ hown (host := "") (Or.inl (hw _ (List.mem_of_getElem? (i := 40) rfl))) Via.refl e0 S_LIST (g := (mkF m 1 #[.val (.ref a1)] [(.ref a1)])) rfl (hb hby d1_1)
  have pr4 : ∀ t, Steps p.tables e below (T2.setTop (mkF m 4 #[.val (.ref a1)] [(.ref s_LIST), (.ref a1)])) t → Steps p.tables e below (s₁.setTop (entryFrame m #[(.ref a1)] 1)) t := by
    intro t k
    refine pre0 t ?_
    show Steps p.tables e below (s₁.setTop (mkF m 0 #[.val (.ref a1)] [])) _
    refine XS.aloadN X0.here hx rfl (hb hby d1_0) rfl rfl ?_
    show Steps p.tables e below (s₁.setTop (mkF m 1 #[.val (.ref a1)] [(.ref a1)])) _
    refine st2 _ ?_
    show Steps p.tables e below (T2.setTop (mkF m 4 #[.val (.ref a1)] [(.ref s_LIST), (.ref a1)])) _
    exact k
  by_cases hc3 : a1 = s_LIST
  · obtain ⟨fs, hr, hrun, hended, hW, hsame⟩ := X2.leave (v := some (.int (1 : Int32))) (fun h => by rw [Bd.returns] at h; cases h)
    refine ⟨_, _, pr4 _ ?_, hrun, hended, _, _, rfl, ?_, ⟨_, rfl⟩, hW, hsame.mono (by decide) (by decide)⟩
    · show Steps p.tables e below (T2.setTop (mkF m 4 #[.val (.ref a1)] [(.ref s_LIST), (.ref a1)])) _
      refine Jvm.RoadKit.acmp (g := (mkF m 4 #[.val (.ref a1)] [(.ref s_LIST), (.ref a1)])) X2 hx rfl rfl rfl (pc0 := 4) (pc' := 28) (same := true) rfl (hb hby d1_4) rfl (decide_eq_true (congrArg Value.ref hc3)) (by decide) (by decide) ?_
      show Steps p.tables e below (T2.setTop (mkF m 28 #[.val (.ref a1)] [])) _
      refine XS.iconst X2.here hx rfl (hb hby d1_28) ?_
      show Steps p.tables e below (T2.setTop (mkF m 29 #[.val (.ref a1)] [(.int (1 : Int32))])) _
      refine XS.goto X2.here hx rfl (pc0 := 29) (pc' := 33) rfl (hb hby d1_29) (by decide) (by decide) ?_
      show Steps p.tables e below (T2.setTop (mkF m 33 #[.val (.ref a1)] [(.int (1 : Int32))])) _
      exact retN X2 hx (t := .boolean) Bd.returns (by simp) (hb hby d1_33) hr
    · show Q1 Z a1 s_LIST s_SET s_MAP s_WRAPPED h0 n0 _ T2.heap _
      rw [e2]
      exact ⟨(by rw [show (own_f1 a1 s_LIST s_SET s_MAP s_WRAPPED) = (1 : Int32) from by unfold own_f1; rw [if_pos hc3]]), N0, rfl⟩
  · obtain ⟨T5, X5, e5, st5⟩ := getS2 X2 hx hZ hown (host := "") (Or.inl (hw _ (List.mem_of_getElem? (i := 41) rfl))) Via.refl e2 S_SET (g := (mkF m 8 #[.val (.ref a1)] [(.ref a1)])) rfl (hb hby d1_8)
    have pr7 : ∀ t, Steps p.tables e below (T5.setTop (mkF m 11 #[.val (.ref a1)] [(.ref s_SET), (.ref a1)])) t → Steps p.tables e below (s₁.setTop (entryFrame m #[(.ref a1)] 1)) t := by
      intro t k
      refine pr4 t ?_
      show Steps p.tables e below (T2.setTop (mkF m 4 #[.val (.ref a1)] [(.ref s_LIST), (.ref a1)])) _
      refine Jvm.RoadKit.acmp (g := (mkF m 4 #[.val (.ref a1)] [(.ref s_LIST), (.ref a1)])) X2 hx rfl rfl rfl (pc0 := 4) (pc' := 7) (same := false) rfl (hb hby d1_4) rfl (decide_eq_false fun q => hc3 (Value.ref.inj q)) (by decide) (by decide) ?_
      show Steps p.tables e below (T2.setTop (mkF m 7 #[.val (.ref a1)] [])) _
      refine XS.aloadN X2.here hx rfl (hb hby d1_7) rfl rfl ?_
      show Steps p.tables e below (T2.setTop (mkF m 8 #[.val (.ref a1)] [(.ref a1)])) _
      refine st5 _ ?_
      show Steps p.tables e below (T5.setTop (mkF m 11 #[.val (.ref a1)] [(.ref s_SET), (.ref a1)])) _
      exact k
    by_cases hc6 : a1 = s_SET
    · obtain ⟨fs, hr, hrun, hended, hW, hsame⟩ := X5.leave (v := some (.int (1 : Int32))) (fun h => by rw [Bd.returns] at h; cases h)
      refine ⟨_, _, pr7 _ ?_, hrun, hended, _, _, rfl, ?_, ⟨_, rfl⟩, hW, hsame.mono (by decide) (by decide)⟩
      · show Steps p.tables e below (T5.setTop (mkF m 11 #[.val (.ref a1)] [(.ref s_SET), (.ref a1)])) _
        refine Jvm.RoadKit.acmp (g := (mkF m 11 #[.val (.ref a1)] [(.ref s_SET), (.ref a1)])) X5 hx rfl rfl rfl (pc0 := 11) (pc' := 28) (same := true) rfl (hb hby d1_11) rfl (decide_eq_true (congrArg Value.ref hc6)) (by decide) (by decide) ?_
        show Steps p.tables e below (T5.setTop (mkF m 28 #[.val (.ref a1)] [])) _
        refine XS.iconst X5.here hx rfl (hb hby d1_28) ?_
        show Steps p.tables e below (T5.setTop (mkF m 29 #[.val (.ref a1)] [(.int (1 : Int32))])) _
        refine XS.goto X5.here hx rfl (pc0 := 29) (pc' := 33) rfl (hb hby d1_29) (by decide) (by decide) ?_
        show Steps p.tables e below (T5.setTop (mkF m 33 #[.val (.ref a1)] [(.int (1 : Int32))])) _
        exact retN X5 hx (t := .boolean) Bd.returns (by simp) (hb hby d1_33) hr
      · show Q1 Z a1 s_LIST s_SET s_MAP s_WRAPPED h0 n0 _ T5.heap _
        rw [e5]
        exact ⟨(by rw [show (own_f1 a1 s_LIST s_SET s_MAP s_WRAPPED) = (1 : Int32) from by unfold own_f1; rw [if_neg hc3, if_pos hc6]]), N0, rfl⟩
    · obtain ⟨T8, X8, e8, st8⟩ := getS2 X5 hx hZ hown (host := "") (Or.inl (hw _ (List.mem_of_getElem? (i := 42) rfl))) Via.refl e5 S_MAP (g := (mkF m 15 #[.val (.ref a1)] [(.ref a1)])) rfl (hb hby d1_15)
      have pr10 : ∀ t, Steps p.tables e below (T8.setTop (mkF m 18 #[.val (.ref a1)] [(.ref s_MAP), (.ref a1)])) t → Steps p.tables e below (s₁.setTop (entryFrame m #[(.ref a1)] 1)) t := by
        intro t k
        refine pr7 t ?_
        show Steps p.tables e below (T5.setTop (mkF m 11 #[.val (.ref a1)] [(.ref s_SET), (.ref a1)])) _
        refine Jvm.RoadKit.acmp (g := (mkF m 11 #[.val (.ref a1)] [(.ref s_SET), (.ref a1)])) X5 hx rfl rfl rfl (pc0 := 11) (pc' := 14) (same := false) rfl (hb hby d1_11) rfl (decide_eq_false fun q => hc6 (Value.ref.inj q)) (by decide) (by decide) ?_
        show Steps p.tables e below (T5.setTop (mkF m 14 #[.val (.ref a1)] [])) _
        refine XS.aloadN X5.here hx rfl (hb hby d1_14) rfl rfl ?_
        show Steps p.tables e below (T5.setTop (mkF m 15 #[.val (.ref a1)] [(.ref a1)])) _
        refine st8 _ ?_
        show Steps p.tables e below (T8.setTop (mkF m 18 #[.val (.ref a1)] [(.ref s_MAP), (.ref a1)])) _
        exact k
      by_cases hc9 : a1 = s_MAP
      · obtain ⟨fs, hr, hrun, hended, hW, hsame⟩ := X8.leave (v := some (.int (1 : Int32))) (fun h => by rw [Bd.returns] at h; cases h)
        refine ⟨_, _, pr10 _ ?_, hrun, hended, _, _, rfl, ?_, ⟨_, rfl⟩, hW, hsame.mono (by decide) (by decide)⟩
        · show Steps p.tables e below (T8.setTop (mkF m 18 #[.val (.ref a1)] [(.ref s_MAP), (.ref a1)])) _
          refine Jvm.RoadKit.acmp (g := (mkF m 18 #[.val (.ref a1)] [(.ref s_MAP), (.ref a1)])) X8 hx rfl rfl rfl (pc0 := 18) (pc' := 28) (same := true) rfl (hb hby d1_18) rfl (decide_eq_true (congrArg Value.ref hc9)) (by decide) (by decide) ?_
          show Steps p.tables e below (T8.setTop (mkF m 28 #[.val (.ref a1)] [])) _
          refine XS.iconst X8.here hx rfl (hb hby d1_28) ?_
          show Steps p.tables e below (T8.setTop (mkF m 29 #[.val (.ref a1)] [(.int (1 : Int32))])) _
          refine XS.goto X8.here hx rfl (pc0 := 29) (pc' := 33) rfl (hb hby d1_29) (by decide) (by decide) ?_
          show Steps p.tables e below (T8.setTop (mkF m 33 #[.val (.ref a1)] [(.int (1 : Int32))])) _
          exact retN X8 hx (t := .boolean) Bd.returns (by simp) (hb hby d1_33) hr
        · show Q1 Z a1 s_LIST s_SET s_MAP s_WRAPPED h0 n0 _ T8.heap _
          rw [e8]
          exact ⟨(by rw [show (own_f1 a1 s_LIST s_SET s_MAP s_WRAPPED) = (1 : Int32) from by unfold own_f1; rw [if_neg hc3, if_neg hc6, if_pos hc9]]), N0, rfl⟩
      · obtain ⟨T11, X11, e11, st11⟩ := getS2 X8 hx hZ hown (host := "") (Or.inl (hw _ (List.mem_of_getElem? (i := 43) rfl))) Via.refl e8 S_WRAPPED (g := (mkF m 22 #[.val (.ref a1)] [(.ref a1)])) rfl (hb hby d1_22)
        have pr13 : ∀ t, Steps p.tables e below (T11.setTop (mkF m 25 #[.val (.ref a1)] [(.ref s_WRAPPED), (.ref a1)])) t → Steps p.tables e below (s₁.setTop (entryFrame m #[(.ref a1)] 1)) t := by
          intro t k
          refine pr10 t ?_
          show Steps p.tables e below (T8.setTop (mkF m 18 #[.val (.ref a1)] [(.ref s_MAP), (.ref a1)])) _
          refine Jvm.RoadKit.acmp (g := (mkF m 18 #[.val (.ref a1)] [(.ref s_MAP), (.ref a1)])) X8 hx rfl rfl rfl (pc0 := 18) (pc' := 21) (same := false) rfl (hb hby d1_18) rfl (decide_eq_false fun q => hc9 (Value.ref.inj q)) (by decide) (by decide) ?_
          show Steps p.tables e below (T8.setTop (mkF m 21 #[.val (.ref a1)] [])) _
          refine XS.aloadN X8.here hx rfl (hb hby d1_21) rfl rfl ?_
          show Steps p.tables e below (T8.setTop (mkF m 22 #[.val (.ref a1)] [(.ref a1)])) _
          refine st11 _ ?_
          show Steps p.tables e below (T11.setTop (mkF m 25 #[.val (.ref a1)] [(.ref s_WRAPPED), (.ref a1)])) _
          exact k
        by_cases hc12 : a1 = s_WRAPPED
        · obtain ⟨fs, hr, hrun, hended, hW, hsame⟩ := X11.leave (v := some (.int (1 : Int32))) (fun h => by rw [Bd.returns] at h; cases h)
          refine ⟨_, _, pr13 _ ?_, hrun, hended, _, _, rfl, ?_, ⟨_, rfl⟩, hW, hsame.mono (by decide) (by decide)⟩
          · show Steps p.tables e below (T11.setTop (mkF m 25 #[.val (.ref a1)] [(.ref s_WRAPPED), (.ref a1)])) _
            refine Jvm.RoadKit.acmp (g := (mkF m 25 #[.val (.ref a1)] [(.ref s_WRAPPED), (.ref a1)])) X11 hx rfl rfl rfl (pc0 := 25) (pc' := 28) (same := true) rfl (hb hby d1_25) rfl (decide_eq_true (congrArg Value.ref hc12)) (by decide) (by decide) ?_
            show Steps p.tables e below (T11.setTop (mkF m 28 #[.val (.ref a1)] [])) _
            refine XS.iconst X11.here hx rfl (hb hby d1_28) ?_
            show Steps p.tables e below (T11.setTop (mkF m 29 #[.val (.ref a1)] [(.int (1 : Int32))])) _
            refine XS.goto X11.here hx rfl (pc0 := 29) (pc' := 33) rfl (hb hby d1_29) (by decide) (by decide) ?_
            show Steps p.tables e below (T11.setTop (mkF m 33 #[.val (.ref a1)] [(.int (1 : Int32))])) _
            exact retN X11 hx (t := .boolean) Bd.returns (by simp) (hb hby d1_33) hr
          · show Q1 Z a1 s_LIST s_SET s_MAP s_WRAPPED h0 n0 _ T11.heap _
            rw [e11]
            exact ⟨(by rw [show (own_f1 a1 s_LIST s_SET s_MAP s_WRAPPED) = (1 : Int32) from by unfold own_f1; rw [if_neg hc3, if_neg hc6, if_neg hc9, if_pos hc12]]), N0, rfl⟩
        · obtain ⟨fs, hr, hrun, hended, hW, hsame⟩ := X11.leave (v := some (.int (0 : Int32))) (fun h => by rw [Bd.returns] at h; cases h)
          refine ⟨_, _, pr13 _ ?_, hrun, hended, _, _, rfl, ?_, ⟨_, rfl⟩, hW, hsame.mono (by decide) (by decide)⟩
          · show Steps p.tables e below (T11.setTop (mkF m 25 #[.val (.ref a1)] [(.ref s_WRAPPED), (.ref a1)])) _
            refine Jvm.RoadKit.acmp (g := (mkF m 25 #[.val (.ref a1)] [(.ref s_WRAPPED), (.ref a1)])) X11 hx rfl rfl rfl (pc0 := 25) (pc' := 32) (same := false) rfl (hb hby d1_25) rfl (decide_eq_false fun q => hc12 (Value.ref.inj q)) (by decide) (by decide) ?_
            show Steps p.tables e below (T11.setTop (mkF m 32 #[.val (.ref a1)] [])) _
            refine XS.iconst X11.here hx rfl (hb hby d1_32) ?_
            show Steps p.tables e below (T11.setTop (mkF m 33 #[.val (.ref a1)] [(.int (0 : Int32))])) _
            exact retN X11 hx (t := .boolean) Bd.returns (by simp) (hb hby d1_33) hr
          · show Q1 Z a1 s_LIST s_SET s_MAP s_WRAPPED h0 n0 _ T11.heap _
            rw [e11]
            exact ⟨(by rw [show (own_f1 a1 s_LIST s_SET s_MAP s_WRAPPED) = (0 : Int32) from by unfold own_f1; rw [if_neg hc3, if_neg hc6, if_neg hc9, if_neg hc12]]), N0, rfl⟩
theorem pn_0 : plainName "com/example/keep3/keep3/HashOfElementsPinLaw" = true := by first | (simp [plainName, overriddenIn]; done) | decide +kernel
theorem pd_0_0 : parseMethodDescriptor "()Z" = some ⟨[], some .boolean⟩ := by decide +kernel
theorem ef_0 (m : MethodId) (x0 : Int32) : entryFrame m #[(.int x0)] maxLocals = mkF m 0 #[.val (.int x0), .unset, .unset, .unset] [] := by first | (simp [entryFrame, mkF, argsToLocals, Value.category, maxLocals]; done) | rfl
def Q0 (Z : State) (p1 : Int32) (s_LIST : Addr) (s_SET : Addr) (s_MAP : Addr) (s_WRAPPED : Addr) (s_BOOLEAN : Addr) (s_CHAR : Addr) (s_BYTE : Addr) (s_SHORT : Addr) (s_INT : Addr) (s_LONG : Addr) (s_FLOAT : Addr) (s_DOUBLE : Addr) (s_BIG_INT : Addr) (s_BIG_DECIMAL : Addr) (s_TIME : Addr) (w68 : Addr) (h0 : Heap) (n0 : Nat) (v : Option Value) (h : Heap) (L : List Loc) : Prop := v = some (.int (1 : Int32)) ∧ Fr n0 L
set_option maxRecDepth 65536 in
set_option maxHeartbeats 40000000 in
theorem rm0 (l : Launch) (Z : State) (a0 : Array Value) (hw : ∀ d ∈ tables_1, d.before a0 Z = true) (ws : List Jvm.Cond) (p1 : Int32) (s_LIST : Addr) (s_SET : Addr) (s_MAP : Addr) (s_WRAPPED : Addr) (s_BOOLEAN : Addr) (s_CHAR : Addr) (s_BYTE : Addr) (s_SHORT : Addr) (s_INT : Addr) (s_LONG : Addr) (s_FLOAT : Addr) (s_DOUBLE : Addr) (s_BIG_INT : Addr) (s_BIG_DECIMAL : Addr) (s_TIME : Addr) (w68 : Addr) (h0 : Heap) (n0 : Nat) (Z0 : n0 ≤ h0.size) (S_LIST : Sta Z h0 "com/example/keep3/keep3/SerialForm$Hash" "LIST" "Lcom/example/keep3/keep3/SerialForm$Hash;" (.ref s_LIST)) (E_s_LIST : Exa Z h0 s_LIST "com/example/keep3/keep3/SerialForm$Hash") (S_SET : Sta Z h0 "com/example/keep3/keep3/SerialForm$Hash" "SET" "Lcom/example/keep3/keep3/SerialForm$Hash;" (.ref s_SET)) (E_s_SET : Exa Z h0 s_SET "com/example/keep3/keep3/SerialForm$Hash") (S_MAP : Sta Z h0 "com/example/keep3/keep3/SerialForm$Hash" "MAP" "Lcom/example/keep3/keep3/SerialForm$Hash;" (.ref s_MAP)) (E_s_MAP : Exa Z h0 s_MAP "com/example/keep3/keep3/SerialForm$Hash") (S_WRAPPED : Sta Z h0 "com/example/keep3/keep3/SerialForm$Hash" "WRAPPED" "Lcom/example/keep3/keep3/SerialForm$Hash;" (.ref s_WRAPPED)) (E_s_WRAPPED : Exa Z h0 s_WRAPPED "com/example/keep3/keep3/SerialForm$Hash") (S_BOOLEAN : Sta Z h0 "com/example/keep3/keep3/SerialForm$Hash" "BOOLEAN" "Lcom/example/keep3/keep3/SerialForm$Hash;" (.ref s_BOOLEAN)) (E_s_BOOLEAN : Exa Z h0 s_BOOLEAN "com/example/keep3/keep3/SerialForm$Hash") (S_CHAR : Sta Z h0 "com/example/keep3/keep3/SerialForm$Hash" "CHAR" "Lcom/example/keep3/keep3/SerialForm$Hash;" (.ref s_CHAR)) (E_s_CHAR : Exa Z h0 s_CHAR "com/example/keep3/keep3/SerialForm$Hash") (S_BYTE : Sta Z h0 "com/example/keep3/keep3/SerialForm$Hash" "BYTE" "Lcom/example/keep3/keep3/SerialForm$Hash;" (.ref s_BYTE)) (E_s_BYTE : Exa Z h0 s_BYTE "com/example/keep3/keep3/SerialForm$Hash") (S_SHORT : Sta Z h0 "com/example/keep3/keep3/SerialForm$Hash" "SHORT" "Lcom/example/keep3/keep3/SerialForm$Hash;" (.ref s_SHORT)) (E_s_SHORT : Exa Z h0 s_SHORT "com/example/keep3/keep3/SerialForm$Hash") (S_INT : Sta Z h0 "com/example/keep3/keep3/SerialForm$Hash" "INT" "Lcom/example/keep3/keep3/SerialForm$Hash;" (.ref s_INT)) (E_s_INT : Exa Z h0 s_INT "com/example/keep3/keep3/SerialForm$Hash") (S_LONG : Sta Z h0 "com/example/keep3/keep3/SerialForm$Hash" "LONG" "Lcom/example/keep3/keep3/SerialForm$Hash;" (.ref s_LONG)) (E_s_LONG : Exa Z h0 s_LONG "com/example/keep3/keep3/SerialForm$Hash") (S_FLOAT : Sta Z h0 "com/example/keep3/keep3/SerialForm$Hash" "FLOAT" "Lcom/example/keep3/keep3/SerialForm$Hash;" (.ref s_FLOAT)) (E_s_FLOAT : Exa Z h0 s_FLOAT "com/example/keep3/keep3/SerialForm$Hash") (S_DOUBLE : Sta Z h0 "com/example/keep3/keep3/SerialForm$Hash" "DOUBLE" "Lcom/example/keep3/keep3/SerialForm$Hash;" (.ref s_DOUBLE)) (E_s_DOUBLE : Exa Z h0 s_DOUBLE "com/example/keep3/keep3/SerialForm$Hash") (S_BIG_INT : Sta Z h0 "com/example/keep3/keep3/SerialForm$Hash" "BIG_INT" "Lcom/example/keep3/keep3/SerialForm$Hash;" (.ref s_BIG_INT)) (E_s_BIG_INT : Exa Z h0 s_BIG_INT "com/example/keep3/keep3/SerialForm$Hash") (S_BIG_DECIMAL : Sta Z h0 "com/example/keep3/keep3/SerialForm$Hash" "BIG_DECIMAL" "Lcom/example/keep3/keep3/SerialForm$Hash;" (.ref s_BIG_DECIMAL)) (E_o1 : Exa Z h0 s_BIG_DECIMAL "com/example/keep3/keep3/SerialForm$Hash") (S_TIME : Sta Z h0 "com/example/keep3/keep3/SerialForm$Hash" "TIME" "Lcom/example/keep3/keep3/SerialForm$Hash;" (.ref s_TIME)) (E_s_TIME : Exa Z h0 s_TIME "com/example/keep3/keep3/SerialForm$Hash") (hix126 : ¬ ((p1 &&& (2147483647 : Int32)) % (15 : Int32)) < 0 ∧ ((p1 &&& (2147483647 : Int32)) % (15 : Int32)) < (15 : Int32)) (hel126 : ([(.ref s_LIST), (.ref s_SET), (.ref s_MAP), (.ref s_WRAPPED), (.ref s_BOOLEAN), (.ref s_CHAR), (.ref s_BYTE), (.ref s_SHORT), (.ref s_INT), (.ref s_LONG), (.ref s_FLOAT), (.ref s_DOUBLE), (.ref s_BIG_INT), (.ref s_BIG_DECIMAL), (.ref s_TIME)] : List Value).getD (((p1 &&& (2147483647 : Int32)) % (15 : Int32))).toNatClampNeg Value.null = Value.ref w68) (E_w68 : Exa Z h0 w68 "com/example/keep3/keep3/SerialForm$Hash") (hq131_1 : (own_f1 w68 s_LIST s_SET s_MAP s_WRAPPED) = (if ((p1 &&& (2147483647 : Int32)) % (15 : Int32)) < (4 : Int32) then (1 : Int32) else (0 : Int32))) :
    MetFree l x (head1 (Jvm.Cond.code x code maxLocals ret :: ws) room_1) (fun a U => a = #[(.int p1)] ∧ Z.Warmed39 U.vm ∧ U.heap = h0) (fun _ _ _ _ _ => True) (fun _ U o U' => ∃ v L, o = .returned v ∧ Q0 Z p1 s_LIST s_SET s_MAP s_WRAPPED s_BOOLEAN s_CHAR s_BYTE s_SHORT s_INT s_LONG s_FLOAT s_DOUBLE s_BIG_INT s_BIG_DECIMAL s_TIME w68 h0 n0 v U'.heap L ∧ FrameEnd U o U' L room_1.cells room_1.slots) := by
  refine MetFree.of_bodySF (plainFor_of_name pn_0) hisR ?_
  intro p e s m args below meth c s₁ Bd hml0 hP hK
  obtain ⟨rfl, hZ, hh⟩ := hP
  have hx := Bd.exec
  have hby := Bd.bytes
  have hml : c.maxLocals = 4 := hml0
  have hown : s.vm.findClass "com/example/keep3/keep3/HashOfElementsPinLaw" = some m.cls := findClass_of_methodNamed Bd.named
  have hnm := (name_of_methodNamed Bd.named Bd.method).1
  have X0 : Stand p l e room_1 s m #[(.int p1)] below meth c s₁ [] 0 0 := Stand.of_body Bd
  have e0 : s₁.heap = h0 := by rw [← hh, Bd.state]; rfl
  have N0 := Fr.nil n0
  have pre0 : ∀ t, Steps p.tables e below (s₁.setTop (mkF m 0 #[.val (.int p1), .unset, .unset, .unset] [])) t → Steps p.tables e below (s₁.setTop (entryFrame m #[(.int p1)] maxLocals)) t := fun t k => castTop (ef_0 m p1) k
  obtain ⟨T2, h2, k2, X2, e2, E2, A2, O2, st2⟩ := newR X0 hx hZ hown (hw _ (List.mem_of_getElem? (i := 0) rfl)) (hw _ (List.mem_of_getElem? (i := 1) rfl)) e0 (g := (mkF m 2 #[.val (.int p1), .unset, .unset, .unset] [(.int (15 : Int32))])) rfl (hb hby at_2) rfl (by decide) (cap := 15) (by decide) (by decide) (by decide) (by decide)
  obtain ⟨b2, g2⟩ : ∃ z, z = h0.size := ⟨_, rfl⟩
  rw [← g2] at A2 st2
  have g_b2 : n0 ≤ b2 := Nat.le_trans Z0 (Nat.le_of_eq g2.symm)
  have sz_b2 : h0.size ≤ b2 := Nat.le_trans (Keep.refl h0 []).1 (Nat.le_of_eq g2.symm)
  have Z2 : n0 ≤ h2.size := Nat.le_trans Z0 E2.1
  have KK2 := (Keep.ext (Keep.refl h0 []) E2)
  have V2 : Arv Z h2 b2 k2 (Jvm.ClassFile.FieldType.object "com/example/keep3/keep3/SerialForm$Hash") (15 : Int32) [.null, .null, .null, .null, .null, .null, .null, .null, .null, .null, .null, .null, .null, .null, .null] .null := (Arv.new A2 (by decide)).pad (pad_rep [] .null 15)
  have f3 := (Sta.ext E2 S_LIST)
  obtain ⟨T4, X4, e4, st4⟩ := getS2 X2 hx hZ hown (host := "") (Or.inl (hw _ (List.mem_of_getElem? (i := 2) rfl))) Via.refl e2 f3 (g := (mkF m 7 #[.val (.int p1), .unset, .unset, .unset] [(.int (0 : Int32)), (.ref b2), (.ref b2)])) rfl (hb hby at_7)
  obtain ⟨cl5, Ar5, q5, Sz5, Nn5, Hh5, Gg5⟩ := id V2
  have hin5 : ¬ ((0 : Int32) < 0 ∨ cl5.slots.size ≤ ((0 : Int32)).toNatClampNeg) := inb_of Sz5 ⟨by decide, by decide⟩
  have f6 := (Exa.ext E2 E_s_LIST)
  have Sto5 : Sto Z h2 b2 (.ref s_LIST) := Sto.ofV Ar5 q5 O2 (Ins.self f6)
  obtain ⟨T5, h5, X5, e5, W5, st5⟩ := stR X4 hx hZ e4 Ar5 (j := (0 : Int32)) hin5 rfl Sto5 (g := (mkF m 10 #[.val (.int p1), .unset, .unset, .unset] [(.ref s_LIST), (.int (0 : Int32)), (.ref b2), (.ref b2)])) rfl rfl (hb hby at_10)
  have Z5 : n0 ≤ h5.size := Nat.le_trans Z2 (Keep.of_wr W5).1
  have KK5 := Keep.wr KK2 W5 (Or.inr sz_b2)
  have N5 := Fr.snoc X5 N0 g_b2
  have V5 : Arv Z h5 b2 k2 (Jvm.ClassFile.FieldType.object "com/example/keep3/keep3/SerialForm$Hash") (15 : Int32) [(.ref s_LIST), .null, .null, .null, .null, .null, .null, .null, .null, .null, .null, .null, .null, .null, .null] .null := Arv.set Ar5 q5 Sz5 Nn5 Hh5 Gg5 rfl W5 0 rfl (Nat.le_of_ble_eq_true rfl)
  have f7 := (Sta.wr W5 (Sta.ext E2 S_SET))
  obtain ⟨T8, X8, e8, st8⟩ := getS2 X5 hx hZ hown (host := "") (Or.inl (hw _ (List.mem_of_getElem? (i := 6) rfl))) Via.refl e5 f7 (g := (mkF m 13 #[.val (.int p1), .unset, .unset, .unset] [(.int (1 : Int32)), (.ref b2), (.ref b2)])) rfl (hb hby at_13)
  obtain ⟨cl9, Ar9, q9, Sz9, Nn9, Hh9, Gg9⟩ := id V5
  have hin9 : ¬ ((1 : Int32) < 0 ∨ cl9.slots.size ≤ ((1 : Int32)).toNatClampNeg) := inb_of Sz9 ⟨by decide, by decide⟩
  have f10 := (Exa.wr W5 (Exa.ext E2 E_s_SET))
  have Sto9 : Sto Z h5 b2 (.ref s_SET) := Sto.ofV Ar9 q9 O2 (Ins.self f10)
  obtain ⟨T9, h9, X9, e9, W9, st9⟩ := stR X8 hx hZ e8 Ar9 (j := (1 : Int32)) hin9 rfl Sto9 (g := (mkF m 16 #[.val (.int p1), .unset, .unset, .unset] [(.ref s_SET), (.int (1 : Int32)), (.ref b2), (.ref b2)])) rfl rfl (hb hby at_16)
  have Z9 : n0 ≤ h9.size := Nat.le_trans Z5 (Keep.of_wr W9).1
  have KK9 := Keep.wr KK5 W9 (Or.inr sz_b2)
  have N9 := Fr.snoc X9 N5 g_b2
  have V9 : Arv Z h9 b2 k2 (Jvm.ClassFile.FieldType.object "com/example/keep3/keep3/SerialForm$Hash") (15 : Int32) [(.ref s_LIST), (.ref s_SET), .null, .null, .null, .null, .null, .null, .null, .null, .null, .null, .null, .null, .null] .null := Arv.set Ar9 q9 Sz9 Nn9 Hh9 Gg9 rfl W9 1 rfl (Nat.le_of_ble_eq_true rfl)
  have f11 := (Sta.wr W9 (Sta.wr W5 (Sta.ext E2 S_MAP)))
  obtain ⟨T12, X12, e12, st12⟩ := getS2 X9 hx hZ hown (host := "") (Or.inl (hw _ (List.mem_of_getElem? (i := 8) rfl))) Via.refl e9 f11 (g := (mkF m 19 #[.val (.int p1), .unset, .unset, .unset] [(.int (2 : Int32)), (.ref b2), (.ref b2)])) rfl (hb hby at_19)
  obtain ⟨cl13, Ar13, q13, Sz13, Nn13, Hh13, Gg13⟩ := id V9
  have hin13 : ¬ ((2 : Int32) < 0 ∨ cl13.slots.size ≤ ((2 : Int32)).toNatClampNeg) := inb_of Sz13 ⟨by decide, by decide⟩
  have f14 := (Exa.wr W9 (Exa.wr W5 (Exa.ext E2 E_s_MAP)))
  have Sto13 : Sto Z h9 b2 (.ref s_MAP) := Sto.ofV Ar13 q13 O2 (Ins.self f14)
  obtain ⟨T13, h13, X13, e13, W13, st13⟩ := stR X12 hx hZ e12 Ar13 (j := (2 : Int32)) hin13 rfl Sto13 (g := (mkF m 22 #[.val (.int p1), .unset, .unset, .unset] [(.ref s_MAP), (.int (2 : Int32)), (.ref b2), (.ref b2)])) rfl rfl (hb hby at_22)
  have Z13 : n0 ≤ h13.size := Nat.le_trans Z9 (Keep.of_wr W13).1
  have KK13 := Keep.wr KK9 W13 (Or.inr sz_b2)
  have N13 := Fr.snoc X13 N9 g_b2
  have V13 : Arv Z h13 b2 k2 (Jvm.ClassFile.FieldType.object "com/example/keep3/keep3/SerialForm$Hash") (15 : Int32) [(.ref s_LIST), (.ref s_SET), (.ref s_MAP), .null, .null, .null, .null, .null, .null, .null, .null, .null, .null, .null, .null] .null := Arv.set Ar13 q13 Sz13 Nn13 Hh13 Gg13 rfl W13 2 rfl (Nat.le_of_ble_eq_true rfl)
  have f15 := (Sta.wr W13 (Sta.wr W9 (Sta.wr W5 (Sta.ext E2 S_WRAPPED))))
  obtain ⟨T16, X16, e16, st16⟩ := getS2 X13 hx hZ hown (host := "") (Or.inl (hw _ (List.mem_of_getElem? (i := 10) rfl))) Via.refl e13 f15 (g := (mkF m 25 #[.val (.int p1), .unset, .unset, .unset] [(.int (3 : Int32)), (.ref b2), (.ref b2)])) rfl (hb hby at_25)
  obtain ⟨cl17, Ar17, q17, Sz17, Nn17, Hh17, Gg17⟩ := id V13
  have hin17 : ¬ ((3 : Int32) < 0 ∨ cl17.slots.size ≤ ((3 : Int32)).toNatClampNeg) := inb_of Sz17 ⟨by decide, by decide⟩
  have f18 := (Exa.wr W13 (Exa.wr W9 (Exa.wr W5 (Exa.ext E2 E_s_WRAPPED))))
  have Sto17 : Sto Z h13 b2 (.ref s_WRAPPED) := Sto.ofV Ar17 q17 O2 (Ins.self f18)
  obtain ⟨T17, h17, X17, e17, W17, st17⟩ := stR X16 hx hZ e16 Ar17 (j := (3 : Int32)) hin17 rfl Sto17 (g := (mkF m 28 #[.val (.int p1), .unset, .unset, .unset] [(.ref s_WRAPPED), (.int (3 : Int32)), (.ref b2), (.ref b2)])) rfl rfl (hb hby at_28)
  have Z17 : n0 ≤ h17.size := Nat.le_trans Z13 (Keep.of_wr W17).1
  have KK17 := Keep.wr KK13 W17 (Or.inr sz_b2)
  have N17 := Fr.snoc X17 N13 g_b2
  have V17 : Arv Z h17 b2 k2 (Jvm.ClassFile.FieldType.object "com/example/keep3/keep3/SerialForm$Hash") (15 : Int32) [(.ref s_LIST), (.ref s_SET), (.ref s_MAP), (.ref s_WRAPPED), .null, .null, .null, .null, .null, .null, .null, .null, .null, .null, .null] .null := Arv.set Ar17 q17 Sz17 Nn17 Hh17 Gg17 rfl W17 3 rfl (Nat.le_of_ble_eq_true rfl)
  have f19 := (Sta.wr W17 (Sta.wr W13 (Sta.wr W9 (Sta.wr W5 (Sta.ext E2 S_BOOLEAN)))))
  obtain ⟨T20, X20, e20, st20⟩ := getS2 X17 hx hZ hown (host := "") (Or.inl (hw _ (List.mem_of_getElem? (i := 12) rfl))) Via.refl e17 f19 (g := (mkF m 31 #[.val (.int p1), .unset, .unset, .unset] [(.int (4 : Int32)), (.ref b2), (.ref b2)])) rfl (hb hby at_31)
  obtain ⟨cl21, Ar21, q21, Sz21, Nn21, Hh21, Gg21⟩ := id V17
  have hin21 : ¬ ((4 : Int32) < 0 ∨ cl21.slots.size ≤ ((4 : Int32)).toNatClampNeg) := inb_of Sz21 ⟨by decide, by decide⟩
  have f22 := (Exa.wr W17 (Exa.wr W13 (Exa.wr W9 (Exa.wr W5 (Exa.ext E2 E_s_BOOLEAN)))))
  have Sto21 : Sto Z h17 b2 (.ref s_BOOLEAN) := Sto.ofV Ar21 q21 O2 (Ins.self f22)
  obtain ⟨T21, h21, X21, e21, W21, st21⟩ := stR X20 hx hZ e20 Ar21 (j := (4 : Int32)) hin21 rfl Sto21 (g := (mkF m 34 #[.val (.int p1), .unset, .unset, .unset] [(.ref s_BOOLEAN), (.int (4 : Int32)), (.ref b2), (.ref b2)])) rfl rfl (hb hby at_34)
  have Z21 : n0 ≤ h21.size := Nat.le_trans Z17 (Keep.of_wr W21).1
  have KK21 := Keep.wr KK17 W21 (Or.inr sz_b2)
  have N21 := Fr.snoc X21 N17 g_b2
  have V21 : Arv Z h21 b2 k2 (Jvm.ClassFile.FieldType.object "com/example/keep3/keep3/SerialForm$Hash") (15 : Int32) [(.ref s_LIST), (.ref s_SET), (.ref s_MAP), (.ref s_WRAPPED), (.ref s_BOOLEAN), .null, .null, .null, .null, .null, .null, .null, .null, .null, .null] .null := Arv.set Ar21 q21 Sz21 Nn21 Hh21 Gg21 rfl W21 4 rfl (Nat.le_of_ble_eq_true rfl)
  have f23 := (Sta.wr W21 (Sta.wr W17 (Sta.wr W13 (Sta.wr W9 (Sta.wr W5 (Sta.ext E2 S_CHAR))))))
  obtain ⟨T24, X24, e24, st24⟩ := getS2 X21 hx hZ hown (host := "") (Or.inl (hw _ (List.mem_of_getElem? (i := 14) rfl))) Via.refl e21 f23 (g := (mkF m 37 #[.val (.int p1), .unset, .unset, .unset] [(.int (5 : Int32)), (.ref b2), (.ref b2)])) rfl (hb hby at_37)
  obtain ⟨cl25, Ar25, q25, Sz25, Nn25, Hh25, Gg25⟩ := id V21
  have hin25 : ¬ ((5 : Int32) < 0 ∨ cl25.slots.size ≤ ((5 : Int32)).toNatClampNeg) := inb_of Sz25 ⟨by decide, by decide⟩
  have f26 := (Exa.wr W21 (Exa.wr W17 (Exa.wr W13 (Exa.wr W9 (Exa.wr W5 (Exa.ext E2 E_s_CHAR))))))
  have Sto25 : Sto Z h21 b2 (.ref s_CHAR) := Sto.ofV Ar25 q25 O2 (Ins.self f26)
  obtain ⟨T25, h25, X25, e25, W25, st25⟩ := stR X24 hx hZ e24 Ar25 (j := (5 : Int32)) hin25 rfl Sto25 (g := (mkF m 40 #[.val (.int p1), .unset, .unset, .unset] [(.ref s_CHAR), (.int (5 : Int32)), (.ref b2), (.ref b2)])) rfl rfl (hb hby at_40)
  have Z25 : n0 ≤ h25.size := Nat.le_trans Z21 (Keep.of_wr W25).1
  have KK25 := Keep.wr KK21 W25 (Or.inr sz_b2)
  have N25 := Fr.snoc X25 N21 g_b2
  have V25 : Arv Z h25 b2 k2 (Jvm.ClassFile.FieldType.object "com/example/keep3/keep3/SerialForm$Hash") (15 : Int32) [(.ref s_LIST), (.ref s_SET), (.ref s_MAP), (.ref s_WRAPPED), (.ref s_BOOLEAN), (.ref s_CHAR), .null, .null, .null, .null, .null, .null, .null, .null, .null] .null := Arv.set Ar25 q25 Sz25 Nn25 Hh25 Gg25 rfl W25 5 rfl (Nat.le_of_ble_eq_true rfl)
  have f27 := (Sta.wr W25 (Sta.wr W21 (Sta.wr W17 (Sta.wr W13 (Sta.wr W9 (Sta.wr W5 (Sta.ext E2 S_BYTE)))))))
  obtain ⟨T28, X28, e28, st28⟩ := getS2 X25 hx hZ hown (host := "") (Or.inl (hw _ (List.mem_of_getElem? (i := 16) rfl))) Via.refl e25 f27 (g := (mkF m 44 #[.val (.int p1), .unset, .unset, .unset] [(.int (6 : Int32)), (.ref b2), (.ref b2)])) rfl (hb hby at_44)
  obtain ⟨cl29, Ar29, q29, Sz29, Nn29, Hh29, Gg29⟩ := id V25
  have hin29 : ¬ ((6 : Int32) < 0 ∨ cl29.slots.size ≤ ((6 : Int32)).toNatClampNeg) := inb_of Sz29 ⟨by decide, by decide⟩
  have f30 := (Exa.wr W25 (Exa.wr W21 (Exa.wr W17 (Exa.wr W13 (Exa.wr W9 (Exa.wr W5 (Exa.ext E2 E_s_BYTE)))))))
  have Sto29 : Sto Z h25 b2 (.ref s_BYTE) := Sto.ofV Ar29 q29 O2 (Ins.self f30)
  obtain ⟨T29, h29, X29, e29, W29, st29⟩ := stR X28 hx hZ e28 Ar29 (j := (6 : Int32)) hin29 rfl Sto29 (g := (mkF m 47 #[.val (.int p1), .unset, .unset, .unset] [(.ref s_BYTE), (.int (6 : Int32)), (.ref b2), (.ref b2)])) rfl rfl (hb hby at_47)
  have Z29 : n0 ≤ h29.size := Nat.le_trans Z25 (Keep.of_wr W29).1
  have KK29 := Keep.wr KK25 W29 (Or.inr sz_b2)
  have N29 := Fr.snoc X29 N25 g_b2
  have V29 : Arv Z h29 b2 k2 (Jvm.ClassFile.FieldType.object "com/example/keep3/keep3/SerialForm$Hash") (15 : Int32) [(.ref s_LIST), (.ref s_SET), (.ref s_MAP), (.ref s_WRAPPED), (.ref s_BOOLEAN), (.ref s_CHAR), (.ref s_BYTE), .null, .null, .null, .null, .null, .null, .null, .null] .null := Arv.set Ar29 q29 Sz29 Nn29 Hh29 Gg29 rfl W29 6 rfl (Nat.le_of_ble_eq_true rfl)
  have f31 := (Sta.wr W29 (Sta.wr W25 (Sta.wr W21 (Sta.wr W17 (Sta.wr W13 (Sta.wr W9 (Sta.wr W5 (Sta.ext E2 S_SHORT))))))))
  obtain ⟨T32, X32, e32, st32⟩ := getS2 X29 hx hZ hown (host := "") (Or.inl (hw _ (List.mem_of_getElem? (i := 18) rfl))) Via.refl e29 f31 (g := (mkF m 51 #[.val (.int p1), .unset, .unset, .unset] [(.int (7 : Int32)), (.ref b2), (.ref b2)])) rfl (hb hby at_51)
  obtain ⟨cl33, Ar33, q33, Sz33, Nn33, Hh33, Gg33⟩ := id V29
  have hin33 : ¬ ((7 : Int32) < 0 ∨ cl33.slots.size ≤ ((7 : Int32)).toNatClampNeg) := inb_of Sz33 ⟨by decide, by decide⟩
  have f34 := (Exa.wr W29 (Exa.wr W25 (Exa.wr W21 (Exa.wr W17 (Exa.wr W13 (Exa.wr W9 (Exa.wr W5 (Exa.ext E2 E_s_SHORT))))))))
  have Sto33 : Sto Z h29 b2 (.ref s_SHORT) := Sto.ofV Ar33 q33 O2 (Ins.self f34)
  obtain ⟨T33, h33, X33, e33, W33, st33⟩ := stR X32 hx hZ e32 Ar33 (j := (7 : Int32)) hin33 rfl Sto33 (g := (mkF m 54 #[.val (.int p1), .unset, .unset, .unset] [(.ref s_SHORT), (.int (7 : Int32)), (.ref b2), (.ref b2)])) rfl rfl (hb hby at_54)
  have Z33 : n0 ≤ h33.size := Nat.le_trans Z29 (Keep.of_wr W33).1
  have KK33 := Keep.wr KK29 W33 (Or.inr sz_b2)
  have N33 := Fr.snoc X33 N29 g_b2
  have V33 : Arv Z h33 b2 k2 (Jvm.ClassFile.FieldType.object "com/example/keep3/keep3/SerialForm$Hash") (15 : Int32) [(.ref s_LIST), (.ref s_SET), (.ref s_MAP), (.ref s_WRAPPED), (.ref s_BOOLEAN), (.ref s_CHAR), (.ref s_BYTE), (.ref s_SHORT), .null, .null, .null, .null, .null, .null, .null] .null := Arv.set Ar33 q33 Sz33 Nn33 Hh33 Gg33 rfl W33 7 rfl (Nat.le_of_ble_eq_true rfl)
  have f35 := (Sta.wr W33 (Sta.wr W29 (Sta.wr W25 (Sta.wr W21 (Sta.wr W17 (Sta.wr W13 (Sta.wr W9 (Sta.wr W5 (Sta.ext E2 S_INT)))))))))
  obtain ⟨T36, X36, e36, st36⟩ := getS2 X33 hx hZ hown (host := "") (Or.inl (hw _ (List.mem_of_getElem? (i := 20) rfl))) Via.refl e33 f35 (g := (mkF m 58 #[.val (.int p1), .unset, .unset, .unset] [(.int (8 : Int32)), (.ref b2), (.ref b2)])) rfl (hb hby at_58)
  obtain ⟨cl37, Ar37, q37, Sz37, Nn37, Hh37, Gg37⟩ := id V33
  have hin37 : ¬ ((8 : Int32) < 0 ∨ cl37.slots.size ≤ ((8 : Int32)).toNatClampNeg) := inb_of Sz37 ⟨by decide, by decide⟩
  have f38 := (Exa.wr W33 (Exa.wr W29 (Exa.wr W25 (Exa.wr W21 (Exa.wr W17 (Exa.wr W13 (Exa.wr W9 (Exa.wr W5 (Exa.ext E2 E_s_INT)))))))))
  have Sto37 : Sto Z h33 b2 (.ref s_INT) := Sto.ofV Ar37 q37 O2 (Ins.self f38)
  obtain ⟨T37, h37, X37, e37, W37, st37⟩ := stR X36 hx hZ e36 Ar37 (j := (8 : Int32)) hin37 rfl Sto37 (g := (mkF m 61 #[.val (.int p1), .unset, .unset, .unset] [(.ref s_INT), (.int (8 : Int32)), (.ref b2), (.ref b2)])) rfl rfl (hb hby at_61)
  have Z37 : n0 ≤ h37.size := Nat.le_trans Z33 (Keep.of_wr W37).1
  have KK37 := Keep.wr KK33 W37 (Or.inr sz_b2)
  have N37 := Fr.snoc X37 N33 g_b2
  have V37 : Arv Z h37 b2 k2 (Jvm.ClassFile.FieldType.object "com/example/keep3/keep3/SerialForm$Hash") (15 : Int32) [(.ref s_LIST), (.ref s_SET), (.ref s_MAP), (.ref s_WRAPPED), (.ref s_BOOLEAN), (.ref s_CHAR), (.ref s_BYTE), (.ref s_SHORT), (.ref s_INT), .null, .null, .null, .null, .null, .null] .null := Arv.set Ar37 q37 Sz37 Nn37 Hh37 Gg37 rfl W37 8 rfl (Nat.le_of_ble_eq_true rfl)
  have f39 := (Sta.wr W37 (Sta.wr W33 (Sta.wr W29 (Sta.wr W25 (Sta.wr W21 (Sta.wr W17 (Sta.wr W13 (Sta.wr W9 (Sta.wr W5 (Sta.ext E2 S_LONG))))))))))
  obtain ⟨T40, X40, e40, st40⟩ := getS2 X37 hx hZ hown (host := "") (Or.inl (hw _ (List.mem_of_getElem? (i := 22) rfl))) Via.refl e37 f39 (g := (mkF m 65 #[.val (.int p1), .unset, .unset, .unset] [(.int (9 : Int32)), (.ref b2), (.ref b2)])) rfl (hb hby at_65)
  obtain ⟨cl41, Ar41, q41, Sz41, Nn41, Hh41, Gg41⟩ := id V37
  have hin41 : ¬ ((9 : Int32) < 0 ∨ cl41.slots.size ≤ ((9 : Int32)).toNatClampNeg) := inb_of Sz41 ⟨by decide, by decide⟩
  have f42 := (Exa.wr W37 (Exa.wr W33 (Exa.wr W29 (Exa.wr W25 (Exa.wr W21 (Exa.wr W17 (Exa.wr W13 (Exa.wr W9 (Exa.wr W5 (Exa.ext E2 E_s_LONG))))))))))
  have Sto41 : Sto Z h37 b2 (.ref s_LONG) := Sto.ofV Ar41 q41 O2 (Ins.self f42)
  obtain ⟨T41, h41, X41, e41, W41, st41⟩ := stR X40 hx hZ e40 Ar41 (j := (9 : Int32)) hin41 rfl Sto41 (g := (mkF m 68 #[.val (.int p1), .unset, .unset, .unset] [(.ref s_LONG), (.int (9 : Int32)), (.ref b2), (.ref b2)])) rfl rfl (hb hby at_68)
  have Z41 : n0 ≤ h41.size := Nat.le_trans Z37 (Keep.of_wr W41).1
  have KK41 := Keep.wr KK37 W41 (Or.inr sz_b2)
  have N41 := Fr.snoc X41 N37 g_b2
  have V41 : Arv Z h41 b2 k2 (Jvm.ClassFile.FieldType.object "com/example/keep3/keep3/SerialForm$Hash") (15 : Int32) [(.ref s_LIST), (.ref s_SET), (.ref s_MAP), (.ref s_WRAPPED), (.ref s_BOOLEAN), (.ref s_CHAR), (.ref s_BYTE), (.ref s_SHORT), (.ref s_INT), (.ref s_LONG), .null, .null, .null, .null, .null] .null := Arv.set Ar41 q41 Sz41 Nn41 Hh41 Gg41 rfl W41 9 rfl (Nat.le_of_ble_eq_true rfl)
  have f43 := (Sta.wr W41 (Sta.wr W37 (Sta.wr W33 (Sta.wr W29 (Sta.wr W25 (Sta.wr W21 (Sta.wr W17 (Sta.wr W13 (Sta.wr W9 (Sta.wr W5 (Sta.ext E2 S_FLOAT)))))))))))
  obtain ⟨T44, X44, e44, st44⟩ := getS2 X41 hx hZ hown (host := "") (Or.inl (hw _ (List.mem_of_getElem? (i := 24) rfl))) Via.refl e41 f43 (g := (mkF m 72 #[.val (.int p1), .unset, .unset, .unset] [(.int (10 : Int32)), (.ref b2), (.ref b2)])) rfl (hb hby at_72)
  obtain ⟨cl45, Ar45, q45, Sz45, Nn45, Hh45, Gg45⟩ := id V41
  have hin45 : ¬ ((10 : Int32) < 0 ∨ cl45.slots.size ≤ ((10 : Int32)).toNatClampNeg) := inb_of Sz45 ⟨by decide, by decide⟩
  have f46 := (Exa.wr W41 (Exa.wr W37 (Exa.wr W33 (Exa.wr W29 (Exa.wr W25 (Exa.wr W21 (Exa.wr W17 (Exa.wr W13 (Exa.wr W9 (Exa.wr W5 (Exa.ext E2 E_s_FLOAT)))))))))))
  have Sto45 : Sto Z h41 b2 (.ref s_FLOAT) := Sto.ofV Ar45 q45 O2 (Ins.self f46)
  obtain ⟨T45, h45, X45, e45, W45, st45⟩ := stR X44 hx hZ e44 Ar45 (j := (10 : Int32)) hin45 rfl Sto45 (g := (mkF m 75 #[.val (.int p1), .unset, .unset, .unset] [(.ref s_FLOAT), (.int (10 : Int32)), (.ref b2), (.ref b2)])) rfl rfl (hb hby at_75)
  have Z45 : n0 ≤ h45.size := Nat.le_trans Z41 (Keep.of_wr W45).1
  have KK45 := Keep.wr KK41 W45 (Or.inr sz_b2)
  have N45 := Fr.snoc X45 N41 g_b2
  have V45 : Arv Z h45 b2 k2 (Jvm.ClassFile.FieldType.object "com/example/keep3/keep3/SerialForm$Hash") (15 : Int32) [(.ref s_LIST), (.ref s_SET), (.ref s_MAP), (.ref s_WRAPPED), (.ref s_BOOLEAN), (.ref s_CHAR), (.ref s_BYTE), (.ref s_SHORT), (.ref s_INT), (.ref s_LONG), (.ref s_FLOAT), .null, .null, .null, .null] .null := Arv.set Ar45 q45 Sz45 Nn45 Hh45 Gg45 rfl W45 10 rfl (Nat.le_of_ble_eq_true rfl)
  have f47 := (Sta.wr W45 (Sta.wr W41 (Sta.wr W37 (Sta.wr W33 (Sta.wr W29 (Sta.wr W25 (Sta.wr W21 (Sta.wr W17 (Sta.wr W13 (Sta.wr W9 (Sta.wr W5 (Sta.ext E2 S_DOUBLE))))))))))))
  obtain ⟨T48, X48, e48, st48⟩ := getS2 X45 hx hZ hown (host := "") (Or.inl (hw _ (List.mem_of_getElem? (i := 26) rfl))) Via.refl e45 f47 (g := (mkF m 79 #[.val (.int p1), .unset, .unset, .unset] [(.int (11 : Int32)), (.ref b2), (.ref b2)])) rfl (hb hby at_79)
  obtain ⟨cl49, Ar49, q49, Sz49, Nn49, Hh49, Gg49⟩ := id V45
  have hin49 : ¬ ((11 : Int32) < 0 ∨ cl49.slots.size ≤ ((11 : Int32)).toNatClampNeg) := inb_of Sz49 ⟨by decide, by decide⟩
  have f50 := (Exa.wr W45 (Exa.wr W41 (Exa.wr W37 (Exa.wr W33 (Exa.wr W29 (Exa.wr W25 (Exa.wr W21 (Exa.wr W17 (Exa.wr W13 (Exa.wr W9 (Exa.wr W5 (Exa.ext E2 E_s_DOUBLE))))))))))))
  have Sto49 : Sto Z h45 b2 (.ref s_DOUBLE) := Sto.ofV Ar49 q49 O2 (Ins.self f50)
  obtain ⟨T49, h49, X49, e49, W49, st49⟩ := stR X48 hx hZ e48 Ar49 (j := (11 : Int32)) hin49 rfl Sto49 (g := (mkF m 82 #[.val (.int p1), .unset, .unset, .unset] [(.ref s_DOUBLE), (.int (11 : Int32)), (.ref b2), (.ref b2)])) rfl rfl (hb hby at_82)
  have Z49 : n0 ≤ h49.size := Nat.le_trans Z45 (Keep.of_wr W49).1
  have KK49 := Keep.wr KK45 W49 (Or.inr sz_b2)
  have N49 := Fr.snoc X49 N45 g_b2
  have V49 : Arv Z h49 b2 k2 (Jvm.ClassFile.FieldType.object "com/example/keep3/keep3/SerialForm$Hash") (15 : Int32) [(.ref s_LIST), (.ref s_SET), (.ref s_MAP), (.ref s_WRAPPED), (.ref s_BOOLEAN), (.ref s_CHAR), (.ref s_BYTE), (.ref s_SHORT), (.ref s_INT), (.ref s_LONG), (.ref s_FLOAT), (.ref s_DOUBLE), .null, .null, .null] .null := Arv.set Ar49 q49 Sz49 Nn49 Hh49 Gg49 rfl W49 11 rfl (Nat.le_of_ble_eq_true rfl)
  have f51 := (Sta.wr W49 (Sta.wr W45 (Sta.wr W41 (Sta.wr W37 (Sta.wr W33 (Sta.wr W29 (Sta.wr W25 (Sta.wr W21 (Sta.wr W17 (Sta.wr W13 (Sta.wr W9 (Sta.wr W5 (Sta.ext E2 S_BIG_INT)))))))))))))
  obtain ⟨T52, X52, e52, st52⟩ := getS2 X49 hx hZ hown (host := "") (Or.inl (hw _ (List.mem_of_getElem? (i := 28) rfl))) Via.refl e49 f51 (g := (mkF m 86 #[.val (.int p1), .unset, .unset, .unset] [(.int (12 : Int32)), (.ref b2), (.ref b2)])) rfl (hb hby at_86)
  obtain ⟨cl53, Ar53, q53, Sz53, Nn53, Hh53, Gg53⟩ := id V49
  have hin53 : ¬ ((12 : Int32) < 0 ∨ cl53.slots.size ≤ ((12 : Int32)).toNatClampNeg) := inb_of Sz53 ⟨by decide, by decide⟩
  have f54 := (Exa.wr W49 (Exa.wr W45 (Exa.wr W41 (Exa.wr W37 (Exa.wr W33 (Exa.wr W29 (Exa.wr W25 (Exa.wr W21 (Exa.wr W17 (Exa.wr W13 (Exa.wr W9 (Exa.wr W5 (Exa.ext E2 E_s_BIG_INT)))))))))))))
  have Sto53 : Sto Z h49 b2 (.ref s_BIG_INT) := Sto.ofV Ar53 q53 O2 (Ins.self f54)
  obtain ⟨T53, h53, X53, e53, W53, st53⟩ := stR X52 hx hZ e52 Ar53 (j := (12 : Int32)) hin53 rfl Sto53 (g := (mkF m 89 #[.val (.int p1), .unset, .unset, .unset] [(.ref s_BIG_INT), (.int (12 : Int32)), (.ref b2), (.ref b2)])) rfl rfl (hb hby at_89)
  have Z53 : n0 ≤ h53.size := Nat.le_trans Z49 (Keep.of_wr W53).1
  have KK53 := Keep.wr KK49 W53 (Or.inr sz_b2)
  have N53 := Fr.snoc X53 N49 g_b2
  have V53 : Arv Z h53 b2 k2 (Jvm.ClassFile.FieldType.object "com/example/keep3/keep3/SerialForm$Hash") (15 : Int32) [(.ref s_LIST), (.ref s_SET), (.ref s_MAP), (.ref s_WRAPPED), (.ref s_BOOLEAN), (.ref s_CHAR), (.ref s_BYTE), (.ref s_SHORT), (.ref s_INT), (.ref s_LONG), (.ref s_FLOAT), (.ref s_DOUBLE), (.ref s_BIG_INT), .null, .null] .null := Arv.set Ar53 q53 Sz53 Nn53 Hh53 Gg53 rfl W53 12 rfl (Nat.le_of_ble_eq_true rfl)
  have f55 := (Sta.wr W53 (Sta.wr W49 (Sta.wr W45 (Sta.wr W41 (Sta.wr W37 (Sta.wr W33 (Sta.wr W29 (Sta.wr W25 (Sta.wr W21 (Sta.wr W17 (Sta.wr W13 (Sta.wr W9 (Sta.wr W5 (Sta.ext E2 S_BIG_DECIMAL))))))))))))))
  obtain ⟨T56, X56, e56, st56⟩ := getS2 X53 hx hZ hown (host := "") (Or.inl (hw _ (List.mem_of_getElem? (i := 30) rfl))) Via.refl e53 f55 (g := (mkF m 93 #[.val (.int p1), .unset, .unset, .unset] [(.int (13 : Int32)), (.ref b2), (.ref b2)])) rfl (hb hby at_93)
  obtain ⟨cl57, Ar57, q57, Sz57, Nn57, Hh57, Gg57⟩ := id V53
  have hin57 : ¬ ((13 : Int32) < 0 ∨ cl57.slots.size ≤ ((13 : Int32)).toNatClampNeg) := inb_of Sz57 ⟨by decide, by decide⟩
  have f58 := (Exa.wr W53 (Exa.wr W49 (Exa.wr W45 (Exa.wr W41 (Exa.wr W37 (Exa.wr W33 (Exa.wr W29 (Exa.wr W25 (Exa.wr W21 (Exa.wr W17 (Exa.wr W13 (Exa.wr W9 (Exa.wr W5 (Exa.ext E2 E_o1))))))))))))))
  have Sto57 : Sto Z h53 b2 (.ref s_BIG_DECIMAL) := Sto.ofV Ar57 q57 O2 (Ins.self f58)
  obtain ⟨T57, h57, X57, e57, W57, st57⟩ := stR X56 hx hZ e56 Ar57 (j := (13 : Int32)) hin57 rfl Sto57 (g := (mkF m 96 #[.val (.int p1), .unset, .unset, .unset] [(.ref s_BIG_DECIMAL), (.int (13 : Int32)), (.ref b2), (.ref b2)])) rfl rfl (hb hby at_96)
  have Z57 : n0 ≤ h57.size := Nat.le_trans Z53 (Keep.of_wr W57).1
  have KK57 := Keep.wr KK53 W57 (Or.inr sz_b2)
  have N57 := Fr.snoc X57 N53 g_b2
  have V57 : Arv Z h57 b2 k2 (Jvm.ClassFile.FieldType.object "com/example/keep3/keep3/SerialForm$Hash") (15 : Int32) [(.ref s_LIST), (.ref s_SET), (.ref s_MAP), (.ref s_WRAPPED), (.ref s_BOOLEAN), (.ref s_CHAR), (.ref s_BYTE), (.ref s_SHORT), (.ref s_INT), (.ref s_LONG), (.ref s_FLOAT), (.ref s_DOUBLE), (.ref s_BIG_INT), (.ref s_BIG_DECIMAL), .null] .null := Arv.set Ar57 q57 Sz57 Nn57 Hh57 Gg57 rfl W57 13 rfl (Nat.le_of_ble_eq_true rfl)
  have f59 := (Sta.wr W57 (Sta.wr W53 (Sta.wr W49 (Sta.wr W45 (Sta.wr W41 (Sta.wr W37 (Sta.wr W33 (Sta.wr W29 (Sta.wr W25 (Sta.wr W21 (Sta.wr W17 (Sta.wr W13 (Sta.wr W9 (Sta.wr W5 (Sta.ext E2 S_TIME)))))))))))))))
  obtain ⟨T60, X60, e60, st60⟩ := getS2 X57 hx hZ hown (host := "") (Or.inl (hw _ (List.mem_of_getElem? (i := 32) rfl))) Via.refl e57 f59 (g := (mkF m 100 #[.val (.int p1), .unset, .unset, .unset] [(.int (14 : Int32)), (.ref b2), (.ref b2)])) rfl (hb hby at_100)
  obtain ⟨cl61, Ar61, q61, Sz61, Nn61, Hh61, Gg61⟩ := id V57
  have hin61 : ¬ ((14 : Int32) < 0 ∨ cl61.slots.size ≤ ((14 : Int32)).toNatClampNeg) := inb_of Sz61 ⟨by decide, by decide⟩
  have f62 := (Exa.wr W57 (Exa.wr W53 (Exa.wr W49 (Exa.wr W45 (Exa.wr W41 (Exa.wr W37 (Exa.wr W33 (Exa.wr W29 (Exa.wr W25 (Exa.wr W21 (Exa.wr W17 (Exa.wr W13 (Exa.wr W9 (Exa.wr W5 (Exa.ext E2 E_s_TIME)))))))))))))))
  have Sto61 : Sto Z h57 b2 (.ref s_TIME) := Sto.ofV Ar61 q61 O2 (Ins.self f62)
  obtain ⟨T61, h61, X61, e61, W61, st61⟩ := stR X60 hx hZ e60 Ar61 (j := (14 : Int32)) hin61 rfl Sto61 (g := (mkF m 103 #[.val (.int p1), .unset, .unset, .unset] [(.ref s_TIME), (.int (14 : Int32)), (.ref b2), (.ref b2)])) rfl rfl (hb hby at_103)
  have Z61 : n0 ≤ h61.size := Nat.le_trans Z57 (Keep.of_wr W61).1
  have KK61 := Keep.wr KK57 W61 (Or.inr sz_b2)
  have N61 := Fr.snoc X61 N57 g_b2
  have V61 : Arv Z h61 b2 k2 (Jvm.ClassFile.FieldType.object "com/example/keep3/keep3/SerialForm$Hash") (15 : Int32) [(.ref s_LIST), (.ref s_SET), (.ref s_MAP), (.ref s_WRAPPED), (.ref s_BOOLEAN), (.ref s_CHAR), (.ref s_BYTE), (.ref s_SHORT), (.ref s_INT), (.ref s_LONG), (.ref s_FLOAT), (.ref s_DOUBLE), (.ref s_BIG_INT), (.ref s_BIG_DECIMAL), (.ref s_TIME)] .null := Arv.set Ar61 q61 Sz61 Nn61 Hh61 Gg61 rfl W61 14 rfl (Nat.le_of_ble_eq_true rfl)
  obtain ⟨cl63, Ar63, -, Sz63, Nn63, -, -⟩ := id V61
  have pr64 : ∀ t, Steps p.tables e below (T61.setTop (mkF m 123 #[.val (.int p1), .val (.ref b2), .val (.int ((p1 &&& (2147483647 : Int32)) % (15 : Int32))), .unset] [(.int (if ((p1 &&& (2147483647 : Int32)) % (15 : Int32)) < (4 : Int32) then (1 : Int32) else (0 : Int32)))])) t → Steps p.tables e below (s₁.setTop (entryFrame m #[(.int p1)] maxLocals)) t := by
    intro t k
    refine pre0 t ?_
    show Steps p.tables e below (s₁.setTop (mkF m 0 #[.val (.int p1), .unset, .unset, .unset] [])) _
    refine XS.bipush X0.here hx rfl (hb hby at_0) ?_
    show Steps p.tables e below (s₁.setTop (mkF m 2 #[.val (.int p1), .unset, .unset, .unset] [(.int (15 : Int32))])) _
    refine st2 _ ?_
    show Steps p.tables e below (T2.setTop (mkF m 5 #[.val (.int p1), .unset, .unset, .unset] [(.ref b2)])) _
    refine XS.dup X2.here hx rfl (hb hby at_5) rfl rfl ?_
    show Steps p.tables e below (T2.setTop (mkF m 6 #[.val (.int p1), .unset, .unset, .unset] [(.ref b2), (.ref b2)])) _
    refine XS.iconst X2.here hx rfl (hb hby at_6) ?_
    show Steps p.tables e below (T2.setTop (mkF m 7 #[.val (.int p1), .unset, .unset, .unset] [(.int (0 : Int32)), (.ref b2), (.ref b2)])) _
    refine st4 _ ?_
    show Steps p.tables e below (T4.setTop (mkF m 10 #[.val (.int p1), .unset, .unset, .unset] [(.ref s_LIST), (.int (0 : Int32)), (.ref b2), (.ref b2)])) _
    refine st5 _ ?_
    show Steps p.tables e below (T5.setTop (mkF m 11 #[.val (.int p1), .unset, .unset, .unset] [(.ref b2)])) _
    refine XS.dup X5.here hx rfl (hb hby at_11) rfl rfl ?_
    show Steps p.tables e below (T5.setTop (mkF m 12 #[.val (.int p1), .unset, .unset, .unset] [(.ref b2), (.ref b2)])) _
    refine XS.iconst X5.here hx rfl (hb hby at_12) ?_
    show Steps p.tables e below (T5.setTop (mkF m 13 #[.val (.int p1), .unset, .unset, .unset] [(.int (1 : Int32)), (.ref b2), (.ref b2)])) _
    refine st8 _ ?_
    show Steps p.tables e below (T8.setTop (mkF m 16 #[.val (.int p1), .unset, .unset, .unset] [(.ref s_SET), (.int (1 : Int32)), (.ref b2), (.ref b2)])) _
    refine st9 _ ?_
    show Steps p.tables e below (T9.setTop (mkF m 17 #[.val (.int p1), .unset, .unset, .unset] [(.ref b2)])) _
    refine XS.dup X9.here hx rfl (hb hby at_17) rfl rfl ?_
    show Steps p.tables e below (T9.setTop (mkF m 18 #[.val (.int p1), .unset, .unset, .unset] [(.ref b2), (.ref b2)])) _
    refine XS.iconst X9.here hx rfl (hb hby at_18) ?_
    show Steps p.tables e below (T9.setTop (mkF m 19 #[.val (.int p1), .unset, .unset, .unset] [(.int (2 : Int32)), (.ref b2), (.ref b2)])) _
    refine st12 _ ?_
    show Steps p.tables e below (T12.setTop (mkF m 22 #[.val (.int p1), .unset, .unset, .unset] [(.ref s_MAP), (.int (2 : Int32)), (.ref b2), (.ref b2)])) _
    refine st13 _ ?_
    show Steps p.tables e below (T13.setTop (mkF m 23 #[.val (.int p1), .unset, .unset, .unset] [(.ref b2)])) _
    refine XS.dup X13.here hx rfl (hb hby at_23) rfl rfl ?_
    show Steps p.tables e below (T13.setTop (mkF m 24 #[.val (.int p1), .unset, .unset, .unset] [(.ref b2), (.ref b2)])) _
    refine XS.iconst X13.here hx rfl (hb hby at_24) ?_
    show Steps p.tables e below (T13.setTop (mkF m 25 #[.val (.int p1), .unset, .unset, .unset] [(.int (3 : Int32)), (.ref b2), (.ref b2)])) _
    refine st16 _ ?_
    show Steps p.tables e below (T16.setTop (mkF m 28 #[.val (.int p1), .unset, .unset, .unset] [(.ref s_WRAPPED), (.int (3 : Int32)), (.ref b2), (.ref b2)])) _
    refine st17 _ ?_
    show Steps p.tables e below (T17.setTop (mkF m 29 #[.val (.int p1), .unset, .unset, .unset] [(.ref b2)])) _
    refine XS.dup X17.here hx rfl (hb hby at_29) rfl rfl ?_
    show Steps p.tables e below (T17.setTop (mkF m 30 #[.val (.int p1), .unset, .unset, .unset] [(.ref b2), (.ref b2)])) _
    refine XS.iconst X17.here hx rfl (hb hby at_30) ?_
    show Steps p.tables e below (T17.setTop (mkF m 31 #[.val (.int p1), .unset, .unset, .unset] [(.int (4 : Int32)), (.ref b2), (.ref b2)])) _
    refine st20 _ ?_
    show Steps p.tables e below (T20.setTop (mkF m 34 #[.val (.int p1), .unset, .unset, .unset] [(.ref s_BOOLEAN), (.int (4 : Int32)), (.ref b2), (.ref b2)])) _
    refine st21 _ ?_
    show Steps p.tables e below (T21.setTop (mkF m 35 #[.val (.int p1), .unset, .unset, .unset] [(.ref b2)])) _
    refine XS.dup X21.here hx rfl (hb hby at_35) rfl rfl ?_
    show Steps p.tables e below (T21.setTop (mkF m 36 #[.val (.int p1), .unset, .unset, .unset] [(.ref b2), (.ref b2)])) _
    refine XS.iconst X21.here hx rfl (hb hby at_36) ?_
    show Steps p.tables e below (T21.setTop (mkF m 37 #[.val (.int p1), .unset, .unset, .unset] [(.int (5 : Int32)), (.ref b2), (.ref b2)])) _
    refine st24 _ ?_
    show Steps p.tables e below (T24.setTop (mkF m 40 #[.val (.int p1), .unset, .unset, .unset] [(.ref s_CHAR), (.int (5 : Int32)), (.ref b2), (.ref b2)])) _
    refine st25 _ ?_
    show Steps p.tables e below (T25.setTop (mkF m 41 #[.val (.int p1), .unset, .unset, .unset] [(.ref b2)])) _
    refine XS.dup X25.here hx rfl (hb hby at_41) rfl rfl ?_
    show Steps p.tables e below (T25.setTop (mkF m 42 #[.val (.int p1), .unset, .unset, .unset] [(.ref b2), (.ref b2)])) _
    refine XS.bipush X25.here hx rfl (hb hby at_42) ?_
    show Steps p.tables e below (T25.setTop (mkF m 44 #[.val (.int p1), .unset, .unset, .unset] [(.int (6 : Int32)), (.ref b2), (.ref b2)])) _
    refine st28 _ ?_
    show Steps p.tables e below (T28.setTop (mkF m 47 #[.val (.int p1), .unset, .unset, .unset] [(.ref s_BYTE), (.int (6 : Int32)), (.ref b2), (.ref b2)])) _
    refine st29 _ ?_
    show Steps p.tables e below (T29.setTop (mkF m 48 #[.val (.int p1), .unset, .unset, .unset] [(.ref b2)])) _
    refine XS.dup X29.here hx rfl (hb hby at_48) rfl rfl ?_
    show Steps p.tables e below (T29.setTop (mkF m 49 #[.val (.int p1), .unset, .unset, .unset] [(.ref b2), (.ref b2)])) _
    refine XS.bipush X29.here hx rfl (hb hby at_49) ?_
    show Steps p.tables e below (T29.setTop (mkF m 51 #[.val (.int p1), .unset, .unset, .unset] [(.int (7 : Int32)), (.ref b2), (.ref b2)])) _
    refine st32 _ ?_
    show Steps p.tables e below (T32.setTop (mkF m 54 #[.val (.int p1), .unset, .unset, .unset] [(.ref s_SHORT), (.int (7 : Int32)), (.ref b2), (.ref b2)])) _
    refine st33 _ ?_
    show Steps p.tables e below (T33.setTop (mkF m 55 #[.val (.int p1), .unset, .unset, .unset] [(.ref b2)])) _
    refine XS.dup X33.here hx rfl (hb hby at_55) rfl rfl ?_
    show Steps p.tables e below (T33.setTop (mkF m 56 #[.val (.int p1), .unset, .unset, .unset] [(.ref b2), (.ref b2)])) _
    refine XS.bipush X33.here hx rfl (hb hby at_56) ?_
    show Steps p.tables e below (T33.setTop (mkF m 58 #[.val (.int p1), .unset, .unset, .unset] [(.int (8 : Int32)), (.ref b2), (.ref b2)])) _
    refine st36 _ ?_
    show Steps p.tables e below (T36.setTop (mkF m 61 #[.val (.int p1), .unset, .unset, .unset] [(.ref s_INT), (.int (8 : Int32)), (.ref b2), (.ref b2)])) _
    refine st37 _ ?_
    show Steps p.tables e below (T37.setTop (mkF m 62 #[.val (.int p1), .unset, .unset, .unset] [(.ref b2)])) _
    refine XS.dup X37.here hx rfl (hb hby at_62) rfl rfl ?_
    show Steps p.tables e below (T37.setTop (mkF m 63 #[.val (.int p1), .unset, .unset, .unset] [(.ref b2), (.ref b2)])) _
    refine XS.bipush X37.here hx rfl (hb hby at_63) ?_
    show Steps p.tables e below (T37.setTop (mkF m 65 #[.val (.int p1), .unset, .unset, .unset] [(.int (9 : Int32)), (.ref b2), (.ref b2)])) _
    refine st40 _ ?_
    show Steps p.tables e below (T40.setTop (mkF m 68 #[.val (.int p1), .unset, .unset, .unset] [(.ref s_LONG), (.int (9 : Int32)), (.ref b2), (.ref b2)])) _
    refine st41 _ ?_
    show Steps p.tables e below (T41.setTop (mkF m 69 #[.val (.int p1), .unset, .unset, .unset] [(.ref b2)])) _
    refine XS.dup X41.here hx rfl (hb hby at_69) rfl rfl ?_
    show Steps p.tables e below (T41.setTop (mkF m 70 #[.val (.int p1), .unset, .unset, .unset] [(.ref b2), (.ref b2)])) _
    refine XS.bipush X41.here hx rfl (hb hby at_70) ?_
    show Steps p.tables e below (T41.setTop (mkF m 72 #[.val (.int p1), .unset, .unset, .unset] [(.int (10 : Int32)), (.ref b2), (.ref b2)])) _
    refine st44 _ ?_
    show Steps p.tables e below (T44.setTop (mkF m 75 #[.val (.int p1), .unset, .unset, .unset] [(.ref s_FLOAT), (.int (10 : Int32)), (.ref b2), (.ref b2)])) _
    refine st45 _ ?_
    show Steps p.tables e below (T45.setTop (mkF m 76 #[.val (.int p1), .unset, .unset, .unset] [(.ref b2)])) _
    refine XS.dup X45.here hx rfl (hb hby at_76) rfl rfl ?_
    show Steps p.tables e below (T45.setTop (mkF m 77 #[.val (.int p1), .unset, .unset, .unset] [(.ref b2), (.ref b2)])) _
    refine XS.bipush X45.here hx rfl (hb hby at_77) ?_
    show Steps p.tables e below (T45.setTop (mkF m 79 #[.val (.int p1), .unset, .unset, .unset] [(.int (11 : Int32)), (.ref b2), (.ref b2)])) _
    refine st48 _ ?_
    show Steps p.tables e below (T48.setTop (mkF m 82 #[.val (.int p1), .unset, .unset, .unset] [(.ref s_DOUBLE), (.int (11 : Int32)), (.ref b2), (.ref b2)])) _
    refine st49 _ ?_
    show Steps p.tables e below (T49.setTop (mkF m 83 #[.val (.int p1), .unset, .unset, .unset] [(.ref b2)])) _
    refine XS.dup X49.here hx rfl (hb hby at_83) rfl rfl ?_
    show Steps p.tables e below (T49.setTop (mkF m 84 #[.val (.int p1), .unset, .unset, .unset] [(.ref b2), (.ref b2)])) _
    refine XS.bipush X49.here hx rfl (hb hby at_84) ?_
    show Steps p.tables e below (T49.setTop (mkF m 86 #[.val (.int p1), .unset, .unset, .unset] [(.int (12 : Int32)), (.ref b2), (.ref b2)])) _
    refine st52 _ ?_
    show Steps p.tables e below (T52.setTop (mkF m 89 #[.val (.int p1), .unset, .unset, .unset] [(.ref s_BIG_INT), (.int (12 : Int32)), (.ref b2), (.ref b2)])) _
    refine st53 _ ?_
    show Steps p.tables e below (T53.setTop (mkF m 90 #[.val (.int p1), .unset, .unset, .unset] [(.ref b2)])) _
    refine XS.dup X53.here hx rfl (hb hby at_90) rfl rfl ?_
    show Steps p.tables e below (T53.setTop (mkF m 91 #[.val (.int p1), .unset, .unset, .unset] [(.ref b2), (.ref b2)])) _
    refine XS.bipush X53.here hx rfl (hb hby at_91) ?_
    show Steps p.tables e below (T53.setTop (mkF m 93 #[.val (.int p1), .unset, .unset, .unset] [(.int (13 : Int32)), (.ref b2), (.ref b2)])) _
    refine st56 _ ?_
    show Steps p.tables e below (T56.setTop (mkF m 96 #[.val (.int p1), .unset, .unset, .unset] [(.ref s_BIG_DECIMAL), (.int (13 : Int32)), (.ref b2), (.ref b2)])) _
    refine st57 _ ?_
    show Steps p.tables e below (T57.setTop (mkF m 97 #[.val (.int p1), .unset, .unset, .unset] [(.ref b2)])) _
    refine XS.dup X57.here hx rfl (hb hby at_97) rfl rfl ?_
    show Steps p.tables e below (T57.setTop (mkF m 98 #[.val (.int p1), .unset, .unset, .unset] [(.ref b2), (.ref b2)])) _
    refine XS.bipush X57.here hx rfl (hb hby at_98) ?_
    show Steps p.tables e below (T57.setTop (mkF m 100 #[.val (.int p1), .unset, .unset, .unset] [(.int (14 : Int32)), (.ref b2), (.ref b2)])) _
    refine st60 _ ?_
    show Steps p.tables e below (T60.setTop (mkF m 103 #[.val (.int p1), .unset, .unset, .unset] [(.ref s_TIME), (.int (14 : Int32)), (.ref b2), (.ref b2)])) _
    refine st61 _ ?_
    show Steps p.tables e below (T61.setTop (mkF m 104 #[.val (.int p1), .unset, .unset, .unset] [(.ref b2)])) _
    refine XS.astoreN X61.here hx rfl (hb hby at_104) rfl rfl (l' := #[.val (.int p1), .val (.ref b2), .unset, .unset]) rfl ?_
    show Steps p.tables e below (T61.setTop (mkF m 105 #[.val (.int p1), .val (.ref b2), .unset, .unset] [])) _
    refine XS.iloadN X61.here hx rfl (hb hby at_105) rfl ?_
    show Steps p.tables e below (T61.setTop (mkF m 106 #[.val (.int p1), .val (.ref b2), .unset, .unset] [(.int p1)])) _
    refine X61.ldcInt hx hown (mvT hZ (hw _ (List.mem_of_getElem? (i := 34) rfl))) (g := (mkF m 106 #[.val (.int p1), .val (.ref b2), .unset, .unset] [(.int p1)])) rfl (hb hby at_106) _ ?_
    show Steps p.tables e below (T61.setTop (mkF m 108 #[.val (.int p1), .val (.ref b2), .unset, .unset] [(.int (2147483647 : Int32)), (.int p1)])) _
    refine XS.iand X61.here hx rfl (hb hby at_108) rfl ?_
    show Steps p.tables e below (T61.setTop (mkF m 109 #[.val (.int p1), .val (.ref b2), .unset, .unset] [(.int (p1 &&& (2147483647 : Int32)))])) _
    refine XS.aloadN X61.here hx rfl (hb hby at_109) rfl rfl ?_
    show Steps p.tables e below (T61.setTop (mkF m 110 #[.val (.int p1), .val (.ref b2), .unset, .unset] [(.ref b2), (.int (p1 &&& (2147483647 : Int32)))])) _
    refine X61.arraylength hx (by rw [e61]; exact Ar63.1) (State.isArrayOf_alike hZ.alike Ar63.2.1) (g := (mkF m 110 #[.val (.int p1), .val (.ref b2), .unset, .unset] [(.ref b2), (.int (p1 &&& (2147483647 : Int32)))])) rfl rfl (hb hby at_110) _ ?_
    rw [len_of Sz63 Nn63]
    show Steps p.tables e below (T61.setTop (mkF m 111 #[.val (.int p1), .val (.ref b2), .unset, .unset] [(.int (15 : Int32)), (.int (p1 &&& (2147483647 : Int32)))])) _
    refine iremM X61 hx rfl (hb hby at_111) rfl (by decide) ?_
    show Steps p.tables e below (T61.setTop (mkF m 112 #[.val (.int p1), .val (.ref b2), .unset, .unset] [(.int ((p1 &&& (2147483647 : Int32)) % (15 : Int32)))])) _
    refine XS.istoreN X61.here hx rfl (hb hby at_112) rfl (l' := #[.val (.int p1), .val (.ref b2), .val (.int ((p1 &&& (2147483647 : Int32)) % (15 : Int32))), .unset]) rfl ?_
    show Steps p.tables e below (T61.setTop (mkF m 113 #[.val (.int p1), .val (.ref b2), .val (.int ((p1 &&& (2147483647 : Int32)) % (15 : Int32))), .unset] [])) _
    refine XS.iloadN X61.here hx rfl (hb hby at_113) rfl ?_
    show Steps p.tables e below (T61.setTop (mkF m 114 #[.val (.int p1), .val (.ref b2), .val (.int ((p1 &&& (2147483647 : Int32)) % (15 : Int32))), .unset] [(.int ((p1 &&& (2147483647 : Int32)) % (15 : Int32)))])) _
    refine XS.iconst X61.here hx rfl (hb hby at_114) ?_
    show Steps p.tables e below (T61.setTop (mkF m 115 #[.val (.int p1), .val (.ref b2), .val (.int ((p1 &&& (2147483647 : Int32)) % (15 : Int32))), .unset] [(.int (4 : Int32)), (.int ((p1 &&& (2147483647 : Int32)) % (15 : Int32)))])) _
    by_cases hc65 : ((p1 &&& (2147483647 : Int32)) % (15 : Int32)) < (4 : Int32)
    · rw [if_pos hc65] at k
      refine XS.icmpNo X61.here hx rfl (hb hby at_115) rfl (tlt hc65).2.1 ?_
      show Steps p.tables e below (T61.setTop (mkF m 118 #[.val (.int p1), .val (.ref b2), .val (.int ((p1 &&& (2147483647 : Int32)) % (15 : Int32))), .unset] [])) _
      refine XS.iconst X61.here hx rfl (hb hby at_118) ?_
      show Steps p.tables e below (T61.setTop (mkF m 119 #[.val (.int p1), .val (.ref b2), .val (.int ((p1 &&& (2147483647 : Int32)) % (15 : Int32))), .unset] [(.int (1 : Int32))])) _
      refine XS.goto X61.here hx rfl (pc0 := 119) (pc' := 123) rfl (hb hby at_119) (by decide) (by decide) ?_
      exact k
    · rw [if_neg hc65] at k
      refine XS.icmpYes X61.here hx rfl (pc0 := 115) (pc' := 122) rfl (hb hby at_115) rfl (flt hc65).2.1 (by decide) (by decide) ?_
      show Steps p.tables e below (T61.setTop (mkF m 122 #[.val (.int p1), .val (.ref b2), .val (.int ((p1 &&& (2147483647 : Int32)) % (15 : Int32))), .unset] [])) _
      refine XS.iconst X61.here hx rfl (hb hby at_122) ?_
      exact k
  obtain ⟨cl67, Ar67, q67, Sz67, Nn67, Hh67, -⟩ := id V61
  have hin67 : ¬ (((p1 &&& (2147483647 : Int32)) % (15 : Int32)) < 0 ∨ cl67.slots.size ≤ (((p1 &&& (2147483647 : Int32)) % (15 : Int32))).toNatClampNeg) := inb_of Sz67 hix126
  have hat67 := Has.at (v := (.ref w68)) Hh67 hin67 hel126
  have f70 := (Exa.wr W61 (Exa.wr W57 (Exa.wr W53 (Exa.wr W49 (Exa.wr W45 (Exa.wr W41 (Exa.wr W37 (Exa.wr W33 (Exa.wr W29 (Exa.wr W25 (Exa.wr W21 (Exa.wr W17 (Exa.wr W13 (Exa.wr W9 (Exa.wr W5 (Exa.ext E2 E_w68))))))))))))))))
  obtain ⟨cq69, kq69, q69a, q69b, q69c⟩ := isOf hZ e61 f70
  have f71 := (Sta.wr W61 (Sta.wr W57 (Sta.wr W53 (Sta.wr W49 (Sta.wr W45 (Sta.wr W41 (Sta.wr W37 (Sta.wr W33 (Sta.wr W29 (Sta.wr W25 (Sta.wr W21 (Sta.wr W17 (Sta.wr W13 (Sta.wr W9 (Sta.wr W5 f3)))))))))))))))
  have f72 := (Sta.wr W61 (Sta.wr W57 (Sta.wr W53 (Sta.wr W49 (Sta.wr W45 (Sta.wr W41 (Sta.wr W37 (Sta.wr W33 (Sta.wr W29 (Sta.wr W25 (Sta.wr W21 (Sta.wr W17 (Sta.wr W13 (Sta.wr W9 f7))))))))))))))
  have f73 := (Sta.wr W61 (Sta.wr W57 (Sta.wr W53 (Sta.wr W49 (Sta.wr W45 (Sta.wr W41 (Sta.wr W37 (Sta.wr W33 (Sta.wr W29 (Sta.wr W25 (Sta.wr W21 (Sta.wr W17 (Sta.wr W13 f11)))))))))))))
  have f74 := (Sta.wr W61 (Sta.wr W57 (Sta.wr W53 (Sta.wr W49 (Sta.wr W45 (Sta.wr W41 (Sta.wr W37 (Sta.wr W33 (Sta.wr W29 (Sta.wr W25 (Sta.wr W21 (Sta.wr W17 f15))))))))))))
  obtain ⟨_, _, ⟨T69, L69, k69, n69⟩, -, X69, ⟨Lc69, hQ69, l69, y69, z69⟩, st69⟩ := X61.virtualBack hx (y := (⟨"com/example/keep3/keep3/SerialForm$Hash", "ofElements", "()Z"⟩ : MethodName)) (z := (⟨"com/example/keep3/keep3/SerialForm$Hash", "ofElements", "()Z"⟩ : MethodName)) hown (mvT hZ (hw _ (List.mem_of_getElem? (i := 35) rfl))) (mvT hZ (hw _ (List.mem_of_getElem? (i := 36) rfl))) (notFace_of_selects (args := #[]) (mvT hZ (hw _ (List.mem_of_getElem? (i := 38) rfl)))) (mvT hZ (hw _ (List.mem_of_getElem? (i := 38) rfl))) (mvT hZ (hw _ (List.mem_of_getElem? (i := 37) rfl))) (by decide) (backOf (W := 0) (rm1 l Z a0 hw [] w68 s_LIST s_SET s_MAP s_WRAPPED h61 n0 Z61 f71 f72 f73 f74) hZ (hw _ (List.mem_of_getElem? (i := 39) rfl)) (hw _ (List.mem_of_getElem? (i := 3) rfl)) (by decide) (by decide)) q69a q69c (g := (mkF m 127 #[.val (.int p1), .val (.ref b2), .val (.int ((p1 &&& (2147483647 : Int32)) % (15 : Int32))), .val (.int (if ((p1 &&& (2147483647 : Int32)) % (15 : Int32)) < (4 : Int32) then (1 : Int32) else (0 : Int32)))] [(.ref w68)])) rfl (by rw [hml]; rfl) (Steps.refl _) (argsL := []) (rest := []) (lenOf pd_0_0 rfl) rfl (by show 2 * 0 + _ ≤ _; exact Nat.le_of_eq rfl) (hb hby at_127) (fun _ _ => ⟨rfl, e61, (by decide : 1 + 0 ≤ _), (by decide : 15 + 0 ≤ _)⟩)
  dsimp only [Pt.U, Pt.locs, Pt.cells, Pt.slots] at X69 l69 y69 z69 st69 hQ69
  subst l69 y69 z69
  obtain ⟨rfl, N69q, e69⟩ := hQ69
  have N69 := Fr.app N61 N69q
  obtain ⟨fs, hr, hrun, hended, hW, hsame⟩ := X69.leave (v := some (.int (1 : Int32))) (fun h => by rw [Bd.returns] at h; cases h)
  refine ⟨_, _, pr64 _ ?_, hrun, hended, _, _, rfl, ?_, ⟨_, rfl⟩, hW, hsame.mono (by decide) (by decide)⟩
  · show Steps p.tables e below (T61.setTop (mkF m 123 #[.val (.int p1), .val (.ref b2), .val (.int ((p1 &&& (2147483647 : Int32)) % (15 : Int32))), .unset] [(.int (if ((p1 &&& (2147483647 : Int32)) % (15 : Int32)) < (4 : Int32) then (1 : Int32) else (0 : Int32)))])) _
    refine XS.istoreN X61.here hx rfl (hb hby at_123) rfl (l' := #[.val (.int p1), .val (.ref b2), .val (.int ((p1 &&& (2147483647 : Int32)) % (15 : Int32))), .val (.int (if ((p1 &&& (2147483647 : Int32)) % (15 : Int32)) < (4 : Int32) then (1 : Int32) else (0 : Int32)))]) rfl ?_
    show Steps p.tables e below (T61.setTop (mkF m 124 #[.val (.int p1), .val (.ref b2), .val (.int ((p1 &&& (2147483647 : Int32)) % (15 : Int32))), .val (.int (if ((p1 &&& (2147483647 : Int32)) % (15 : Int32)) < (4 : Int32) then (1 : Int32) else (0 : Int32)))] [])) _
    refine XS.aloadN X61.here hx rfl (hb hby at_124) rfl rfl ?_
    show Steps p.tables e below (T61.setTop (mkF m 125 #[.val (.int p1), .val (.ref b2), .val (.int ((p1 &&& (2147483647 : Int32)) % (15 : Int32))), .val (.int (if ((p1 &&& (2147483647 : Int32)) % (15 : Int32)) < (4 : Int32) then (1 : Int32) else (0 : Int32)))] [(.ref b2)])) _
    refine XS.iloadN X61.here hx rfl (hb hby at_125) rfl ?_
    show Steps p.tables e below (T61.setTop (mkF m 126 #[.val (.int p1), .val (.ref b2), .val (.int ((p1 &&& (2147483647 : Int32)) % (15 : Int32))), .val (.int (if ((p1 &&& (2147483647 : Int32)) % (15 : Int32)) < (4 : Int32) then (1 : Int32) else (0 : Int32)))] [(.int ((p1 &&& (2147483647 : Int32)) % (15 : Int32))), (.ref b2)])) _
    refine X61.aaload hx (j := ((p1 &&& (2147483647 : Int32)) % (15 : Int32))) (v := (.ref w68)) (by rw [e61]; exact Ar67.1) (State.isArrayOf_alike hZ.alike Ar67.2.1) rfl Ar67.2.2 hin67 hat67 (g := (mkF m 126 #[.val (.int p1), .val (.ref b2), .val (.int ((p1 &&& (2147483647 : Int32)) % (15 : Int32))), .val (.int (if ((p1 &&& (2147483647 : Int32)) % (15 : Int32)) < (4 : Int32) then (1 : Int32) else (0 : Int32)))] [(.int ((p1 &&& (2147483647 : Int32)) % (15 : Int32))), (.ref b2)])) rfl rfl (hb hby at_126) _ ?_
    show Steps p.tables e below (T61.setTop (mkF m 127 #[.val (.int p1), .val (.ref b2), .val (.int ((p1 &&& (2147483647 : Int32)) % (15 : Int32))), .val (.int (if ((p1 &&& (2147483647 : Int32)) % (15 : Int32)) < (4 : Int32) then (1 : Int32) else (0 : Int32)))] [(.ref w68)])) _
    refine st69.trans ?_
    show Steps p.tables e below (T69.setTop (mkF m 130 #[.val (.int p1), .val (.ref b2), .val (.int ((p1 &&& (2147483647 : Int32)) % (15 : Int32))), .val (.int (if ((p1 &&& (2147483647 : Int32)) % (15 : Int32)) < (4 : Int32) then (1 : Int32) else (0 : Int32)))] [(.int (own_f1 w68 s_LIST s_SET s_MAP s_WRAPPED))])) _
    refine XS.iloadN X69.here hx rfl (hb hby at_130) rfl ?_
    show Steps p.tables e below (T69.setTop (mkF m 131 #[.val (.int p1), .val (.ref b2), .val (.int ((p1 &&& (2147483647 : Int32)) % (15 : Int32))), .val (.int (if ((p1 &&& (2147483647 : Int32)) % (15 : Int32)) < (4 : Int32) then (1 : Int32) else (0 : Int32)))] [(.int (if ((p1 &&& (2147483647 : Int32)) % (15 : Int32)) < (4 : Int32) then (1 : Int32) else (0 : Int32))), (.int (own_f1 w68 s_LIST s_SET s_MAP s_WRAPPED))])) _
    refine XS.icmpNo X69.here hx rfl (hb hby at_131) rfl (teq (hq131_1)).2 ?_
    show Steps p.tables e below (T69.setTop (mkF m 134 #[.val (.int p1), .val (.ref b2), .val (.int ((p1 &&& (2147483647 : Int32)) % (15 : Int32))), .val (.int (if ((p1 &&& (2147483647 : Int32)) % (15 : Int32)) < (4 : Int32) then (1 : Int32) else (0 : Int32)))] [])) _
    refine XS.iconst X69.here hx rfl (hb hby at_134) ?_
    show Steps p.tables e below (T69.setTop (mkF m 135 #[.val (.int p1), .val (.ref b2), .val (.int ((p1 &&& (2147483647 : Int32)) % (15 : Int32))), .val (.int (if ((p1 &&& (2147483647 : Int32)) % (15 : Int32)) < (4 : Int32) then (1 : Int32) else (0 : Int32)))] [(.int (1 : Int32))])) _
    refine XS.goto X69.here hx rfl (pc0 := 135) (pc' := 139) rfl (hb hby at_135) (by decide) (by decide) ?_
    show Steps p.tables e below (T69.setTop (mkF m 139 #[.val (.int p1), .val (.ref b2), .val (.int ((p1 &&& (2147483647 : Int32)) % (15 : Int32))), .val (.int (if ((p1 &&& (2147483647 : Int32)) % (15 : Int32)) < (4 : Int32) then (1 : Int32) else (0 : Int32)))] [(.int (1 : Int32))])) _
    exact retN X69 hx (t := .boolean) Bd.returns (by simp) (hb hby at_139) hr
  · show Q0 Z p1 s_LIST s_SET s_MAP s_WRAPPED s_BOOLEAN s_CHAR s_BYTE s_SHORT s_INT s_LONG s_FLOAT s_DOUBLE s_BIG_INT s_BIG_DECIMAL s_TIME w68 h0 n0 _ T69.heap _
    rw [e69]
    exact ⟨rfl, N69⟩
set_option maxRecDepth 65536 in
set_option maxHeartbeats 40000000 in
theorem comes_1 {Post : Tables → Env → Array Value → State → Outcome → State → Prop} (hpost : ∀ tb e args s v u, (limb_1_1.after args s (.returned v) u = true ∧ limb_1_2.after args s (.returned v) u = true ∧ True) → FrameEnd s (.returned v) u (Jvm.fieldLocs frame_1_writes args s ++ Jvm.arrayLocs frame_1_arrays args s ++ Jvm.staticLocs frame_1_statics s) 16 128 → Post tb e args s (.returned v) u) :
    ArmFor flags0 classFile x code maxLocals ret World_1 tables_1 room_1 Calls_1 rest_1 Pre_1 Post := by
  intro l hfl _ _ p e ha hc hk s m args below hf hA hF happ hP
  obtain ⟨hcalls, hrest, hpre⟩ := hP
  obtain ⟨-, -, -, hnamed, -, -, -, hat⟩ := (Spec.applies_iff hf).mp happ
  obtain ⟨hg, hn⟩ := and_e (Cond.before_iff.mp (show (Jvm.Cond.and given_1 narrow_1).before args s = true from hpre))
  obtain ⟨c1, c2⟩ := and_e hg
  obtain ⟨w0, rfl⟩ : ∃ w0 : Value, args = #[w0] := by
    have hs : args.size = 1 := by simpa [Cond.value, given_1] using c1
    obtain ⟨L⟩ := args
    match L, hs with
    | [w0], _ => exact ⟨w0, rfl⟩
  have hw := fun d (hd : d ∈ tables_1) => atoms_spec (ws := Jvm.Cond.code x code maxLocals ret :: tables_1) hat d (List.mem_cons_of_mem _ hd)
  have hfit : Fit s := fun {y c} hc i hi => by
    obtain ⟨ha, rfl⟩ := Array.getElem?_eq_some_iff.mp hc
    have q := List.all_eq_true.mp ((Array.all_eq_true_iff_forall_mem.mp hF) _ (Array.getElem_mem ha)) i (List.mem_range.mpr hi)
    simpa [Array.getElem?_eq_getElem hi] using q
  obtain ⟨i0, ei0⟩ := is_v c2
  obtain rfl : w0 = (.int i0) := Option.some.inj ei0
  obtain ⟨c3, c4⟩ := and_e hn
  obtain ⟨c5, c6⟩ := and_e c4
  obtain ⟨c7, c8⟩ := and_e c6
  obtain ⟨c9, c10⟩ := and_e c8
  obtain ⟨c11, c12⟩ := and_e c10
  obtain ⟨c13, c14⟩ := and_e c12
  obtain ⟨c15, c16⟩ := and_e c14
  obtain ⟨c17, c18⟩ := and_e c16
  obtain ⟨c19, c20⟩ := and_e c18
  obtain ⟨c21, c22⟩ := and_e c20
  obtain ⟨c23, c24⟩ := and_e c22
  obtain ⟨c25, c26⟩ := and_e c24
  obtain ⟨c27, c28⟩ := and_e c26
  obtain ⟨c29, c30⟩ := and_e c28
  obtain ⟨c31, c32⟩ := and_e c30
  obtain ⟨c33, c34⟩ := and_e c32
  obtain ⟨c35, c36⟩ := and_e c34
  obtain ⟨c37, c38⟩ := and_e c36
  obtain ⟨c39, c40⟩ := and_e c38
  obtain ⟨c41, c42⟩ := and_e c40
  obtain ⟨c43, c44⟩ := and_e c42
  obtain ⟨c45, c46⟩ := and_e c44
  obtain ⟨c47, c48⟩ := and_e c46
  obtain ⟨c49, c50⟩ := and_e c48
  obtain ⟨c51, c52⟩ := and_e c50
  obtain ⟨c53, c54⟩ := and_e c52
  obtain ⟨c55, c56⟩ := and_e c54
  obtain ⟨c57, c58⟩ := and_e c56
  obtain ⟨c59, c60⟩ := and_e c58
  obtain ⟨s_LIST, ev_LIST⟩ := exa_v c3
  have E_LIST := Exa.start ev_LIST c3
  have S_LIST := Sta.start ev_LIST (Or.inr ⟨(hw _ (List.mem_of_getElem? (i := 3) rfl)), (hw _ (List.mem_of_getElem? (i := 4) rfl))⟩)
  obtain ⟨s_SET, ev_SET⟩ := exa_v c5
  have E_SET := Exa.start ev_SET c5
  have S_SET := Sta.start ev_SET (Or.inr ⟨(hw _ (List.mem_of_getElem? (i := 3) rfl)), (hw _ (List.mem_of_getElem? (i := 7) rfl))⟩)
  obtain ⟨s_MAP, ev_MAP⟩ := exa_v c7
  have E_MAP := Exa.start ev_MAP c7
  have S_MAP := Sta.start ev_MAP (Or.inr ⟨(hw _ (List.mem_of_getElem? (i := 3) rfl)), (hw _ (List.mem_of_getElem? (i := 9) rfl))⟩)
  obtain ⟨s_WRAPPED, ev_WRAPPED⟩ := exa_v c9
  have E_WRAPPED := Exa.start ev_WRAPPED c9
  have S_WRAPPED := Sta.start ev_WRAPPED (Or.inr ⟨(hw _ (List.mem_of_getElem? (i := 3) rfl)), (hw _ (List.mem_of_getElem? (i := 11) rfl))⟩)
  obtain ⟨s_BOOLEAN, ev_BOOLEAN⟩ := exa_v c11
  have E_BOOLEAN := Exa.start ev_BOOLEAN c11
  have S_BOOLEAN := Sta.start ev_BOOLEAN (Or.inr ⟨(hw _ (List.mem_of_getElem? (i := 3) rfl)), (hw _ (List.mem_of_getElem? (i := 13) rfl))⟩)
  obtain ⟨s_CHAR, ev_CHAR⟩ := exa_v c13
  have E_CHAR := Exa.start ev_CHAR c13
  have S_CHAR := Sta.start ev_CHAR (Or.inr ⟨(hw _ (List.mem_of_getElem? (i := 3) rfl)), (hw _ (List.mem_of_getElem? (i := 15) rfl))⟩)
  obtain ⟨s_BYTE, ev_BYTE⟩ := exa_v c15
  have E_BYTE := Exa.start ev_BYTE c15
  have S_BYTE := Sta.start ev_BYTE (Or.inr ⟨(hw _ (List.mem_of_getElem? (i := 3) rfl)), (hw _ (List.mem_of_getElem? (i := 17) rfl))⟩)
  obtain ⟨s_SHORT, ev_SHORT⟩ := exa_v c17
  have E_SHORT := Exa.start ev_SHORT c17
  have S_SHORT := Sta.start ev_SHORT (Or.inr ⟨(hw _ (List.mem_of_getElem? (i := 3) rfl)), (hw _ (List.mem_of_getElem? (i := 19) rfl))⟩)
  obtain ⟨s_INT, ev_INT⟩ := exa_v c19
  have E_INT := Exa.start ev_INT c19
  have S_INT := Sta.start ev_INT (Or.inr ⟨(hw _ (List.mem_of_getElem? (i := 3) rfl)), (hw _ (List.mem_of_getElem? (i := 21) rfl))⟩)
  obtain ⟨s_LONG, ev_LONG⟩ := exa_v c21
  have E_LONG := Exa.start ev_LONG c21
  have S_LONG := Sta.start ev_LONG (Or.inr ⟨(hw _ (List.mem_of_getElem? (i := 3) rfl)), (hw _ (List.mem_of_getElem? (i := 23) rfl))⟩)
  obtain ⟨s_FLOAT, ev_FLOAT⟩ := exa_v c23
  have E_FLOAT := Exa.start ev_FLOAT c23
  have S_FLOAT := Sta.start ev_FLOAT (Or.inr ⟨(hw _ (List.mem_of_getElem? (i := 3) rfl)), (hw _ (List.mem_of_getElem? (i := 25) rfl))⟩)
  obtain ⟨s_DOUBLE, ev_DOUBLE⟩ := exa_v c25
  have E_DOUBLE := Exa.start ev_DOUBLE c25
  have S_DOUBLE := Sta.start ev_DOUBLE (Or.inr ⟨(hw _ (List.mem_of_getElem? (i := 3) rfl)), (hw _ (List.mem_of_getElem? (i := 27) rfl))⟩)
  obtain ⟨s_BIG_INT, ev_BIG_INT⟩ := exa_v c27
  have E_BIG_INT := Exa.start ev_BIG_INT c27
  have S_BIG_INT := Sta.start ev_BIG_INT (Or.inr ⟨(hw _ (List.mem_of_getElem? (i := 3) rfl)), (hw _ (List.mem_of_getElem? (i := 29) rfl))⟩)
  obtain ⟨s_BIG_DECIMAL, ev_BIG_DECIMAL⟩ := exa_v c29
  have E_BIG_DECIMAL := Exa.start ev_BIG_DECIMAL c29
  have S_BIG_DECIMAL := Sta.start ev_BIG_DECIMAL (Or.inr ⟨(hw _ (List.mem_of_getElem? (i := 3) rfl)), (hw _ (List.mem_of_getElem? (i := 31) rfl))⟩)
  obtain ⟨s_TIME, ev_TIME⟩ := exa_v c31
  have E_TIME := Exa.start ev_TIME c31
  have S_TIME := Sta.start ev_TIME (Or.inr ⟨(hw _ (List.mem_of_getElem? (i := 3) rfl)), (hw _ (List.mem_of_getElem? (i := 33) rfl))⟩)
  have F_WRAPPED_ordinal := own_fldI ev_WRAPPED c33
  have F_LIST_ordinal := own_fldI ev_LIST c35
  have F_SET_ordinal := own_fldI ev_SET c37
  have F_MAP_ordinal := own_fldI ev_MAP c39
  have F_CHAR_ordinal := own_fldI ev_CHAR c41
  have F_BIG_DECIMAL_ordinal := own_fldI ev_BIG_DECIMAL c43
  have F_BYTE_ordinal := own_fldI ev_BYTE c45
  have F_TIME_ordinal := own_fldI ev_TIME c47
  have F_SHORT_ordinal := own_fldI ev_SHORT c49
  have F_DOUBLE_ordinal := own_fldI ev_DOUBLE c51
  have F_FLOAT_ordinal := own_fldI ev_FLOAT c53
  have F_INT_ordinal := own_fldI ev_INT c55
  have F_BIG_INT_ordinal := own_fldI ev_BIG_INT c57
  have F_BOOLEAN_ordinal := own_fldI ev_BOOLEAN c59
  have F_LONG_ordinal := own_fldI ev_LONG c60
  have ne_s_BIG_DECIMAL_s_LIST : ¬ (s_BIG_DECIMAL = s_LIST) := Fld.ne F_BIG_DECIMAL_ordinal F_LIST_ordinal (by decide)
  have ne_s_BIG_DECIMAL_s_MAP : ¬ (s_BIG_DECIMAL = s_MAP) := Fld.ne F_BIG_DECIMAL_ordinal F_MAP_ordinal (by decide)
  have ne_s_BIG_DECIMAL_s_SET : ¬ (s_BIG_DECIMAL = s_SET) := Fld.ne F_BIG_DECIMAL_ordinal F_SET_ordinal (by decide)
  have ne_s_BIG_DECIMAL_s_WRAPPED : ¬ (s_BIG_DECIMAL = s_WRAPPED) := Fld.ne F_BIG_DECIMAL_ordinal F_WRAPPED_ordinal (by decide)
  have ne_s_BIG_INT_s_LIST : ¬ (s_BIG_INT = s_LIST) := Fld.ne F_BIG_INT_ordinal F_LIST_ordinal (by decide)
  have ne_s_BIG_INT_s_MAP : ¬ (s_BIG_INT = s_MAP) := Fld.ne F_BIG_INT_ordinal F_MAP_ordinal (by decide)
  have ne_s_BIG_INT_s_SET : ¬ (s_BIG_INT = s_SET) := Fld.ne F_BIG_INT_ordinal F_SET_ordinal (by decide)
  have ne_s_BIG_INT_s_WRAPPED : ¬ (s_BIG_INT = s_WRAPPED) := Fld.ne F_BIG_INT_ordinal F_WRAPPED_ordinal (by decide)
  have ne_s_BOOLEAN_s_LIST : ¬ (s_BOOLEAN = s_LIST) := Fld.ne F_BOOLEAN_ordinal F_LIST_ordinal (by decide)
  have ne_s_BOOLEAN_s_MAP : ¬ (s_BOOLEAN = s_MAP) := Fld.ne F_BOOLEAN_ordinal F_MAP_ordinal (by decide)
  have ne_s_BOOLEAN_s_SET : ¬ (s_BOOLEAN = s_SET) := Fld.ne F_BOOLEAN_ordinal F_SET_ordinal (by decide)
  have ne_s_BOOLEAN_s_WRAPPED : ¬ (s_BOOLEAN = s_WRAPPED) := Fld.ne F_BOOLEAN_ordinal F_WRAPPED_ordinal (by decide)
  have ne_s_BYTE_s_LIST : ¬ (s_BYTE = s_LIST) := Fld.ne F_BYTE_ordinal F_LIST_ordinal (by decide)
  have ne_s_BYTE_s_MAP : ¬ (s_BYTE = s_MAP) := Fld.ne F_BYTE_ordinal F_MAP_ordinal (by decide)
  have ne_s_BYTE_s_SET : ¬ (s_BYTE = s_SET) := Fld.ne F_BYTE_ordinal F_SET_ordinal (by decide)
  have ne_s_BYTE_s_WRAPPED : ¬ (s_BYTE = s_WRAPPED) := Fld.ne F_BYTE_ordinal F_WRAPPED_ordinal (by decide)
  have ne_s_CHAR_s_LIST : ¬ (s_CHAR = s_LIST) := Fld.ne F_CHAR_ordinal F_LIST_ordinal (by decide)
  have ne_s_CHAR_s_MAP : ¬ (s_CHAR = s_MAP) := Fld.ne F_CHAR_ordinal F_MAP_ordinal (by decide)
  have ne_s_CHAR_s_SET : ¬ (s_CHAR = s_SET) := Fld.ne F_CHAR_ordinal F_SET_ordinal (by decide)
  have ne_s_CHAR_s_WRAPPED : ¬ (s_CHAR = s_WRAPPED) := Fld.ne F_CHAR_ordinal F_WRAPPED_ordinal (by decide)
  have ne_s_DOUBLE_s_LIST : ¬ (s_DOUBLE = s_LIST) := Fld.ne F_DOUBLE_ordinal F_LIST_ordinal (by decide)
  have ne_s_DOUBLE_s_MAP : ¬ (s_DOUBLE = s_MAP) := Fld.ne F_DOUBLE_ordinal F_MAP_ordinal (by decide)
  have ne_s_DOUBLE_s_SET : ¬ (s_DOUBLE = s_SET) := Fld.ne F_DOUBLE_ordinal F_SET_ordinal (by decide)
  have ne_s_DOUBLE_s_WRAPPED : ¬ (s_DOUBLE = s_WRAPPED) := Fld.ne F_DOUBLE_ordinal F_WRAPPED_ordinal (by decide)
  have ne_s_FLOAT_s_LIST : ¬ (s_FLOAT = s_LIST) := Fld.ne F_FLOAT_ordinal F_LIST_ordinal (by decide)
  have ne_s_FLOAT_s_MAP : ¬ (s_FLOAT = s_MAP) := Fld.ne F_FLOAT_ordinal F_MAP_ordinal (by decide)
  have ne_s_FLOAT_s_SET : ¬ (s_FLOAT = s_SET) := Fld.ne F_FLOAT_ordinal F_SET_ordinal (by decide)
  have ne_s_FLOAT_s_WRAPPED : ¬ (s_FLOAT = s_WRAPPED) := Fld.ne F_FLOAT_ordinal F_WRAPPED_ordinal (by decide)
  have ne_s_INT_s_LIST : ¬ (s_INT = s_LIST) := Fld.ne F_INT_ordinal F_LIST_ordinal (by decide)
  have ne_s_INT_s_MAP : ¬ (s_INT = s_MAP) := Fld.ne F_INT_ordinal F_MAP_ordinal (by decide)
  have ne_s_INT_s_SET : ¬ (s_INT = s_SET) := Fld.ne F_INT_ordinal F_SET_ordinal (by decide)
  have ne_s_INT_s_WRAPPED : ¬ (s_INT = s_WRAPPED) := Fld.ne F_INT_ordinal F_WRAPPED_ordinal (by decide)
  have ne_s_LONG_s_LIST : ¬ (s_LONG = s_LIST) := Fld.ne F_LONG_ordinal F_LIST_ordinal (by decide)
  have ne_s_LONG_s_MAP : ¬ (s_LONG = s_MAP) := Fld.ne F_LONG_ordinal F_MAP_ordinal (by decide)
  have ne_s_LONG_s_SET : ¬ (s_LONG = s_SET) := Fld.ne F_LONG_ordinal F_SET_ordinal (by decide)
  have ne_s_LONG_s_WRAPPED : ¬ (s_LONG = s_WRAPPED) := Fld.ne F_LONG_ordinal F_WRAPPED_ordinal (by decide)
  have ne_s_MAP_s_LIST : ¬ (s_MAP = s_LIST) := Fld.ne F_MAP_ordinal F_LIST_ordinal (by decide)
  have ne_s_MAP_s_SET : ¬ (s_MAP = s_SET) := Fld.ne F_MAP_ordinal F_SET_ordinal (by decide)
  have ne_s_SET_s_LIST : ¬ (s_SET = s_LIST) := Fld.ne F_SET_ordinal F_LIST_ordinal (by decide)
  have ne_s_SHORT_s_LIST : ¬ (s_SHORT = s_LIST) := Fld.ne F_SHORT_ordinal F_LIST_ordinal (by decide)
  have ne_s_SHORT_s_MAP : ¬ (s_SHORT = s_MAP) := Fld.ne F_SHORT_ordinal F_MAP_ordinal (by decide)
  have ne_s_SHORT_s_SET : ¬ (s_SHORT = s_SET) := Fld.ne F_SHORT_ordinal F_SET_ordinal (by decide)
  have ne_s_SHORT_s_WRAPPED : ¬ (s_SHORT = s_WRAPPED) := Fld.ne F_SHORT_ordinal F_WRAPPED_ordinal (by decide)
  have ne_s_TIME_s_LIST : ¬ (s_TIME = s_LIST) := Fld.ne F_TIME_ordinal F_LIST_ordinal (by decide)
  have ne_s_TIME_s_MAP : ¬ (s_TIME = s_MAP) := Fld.ne F_TIME_ordinal F_MAP_ordinal (by decide)
  have ne_s_TIME_s_SET : ¬ (s_TIME = s_SET) := Fld.ne F_TIME_ordinal F_SET_ordinal (by decide)
  have ne_s_TIME_s_WRAPPED : ¬ (s_TIME = s_WRAPPED) := Fld.ne F_TIME_ordinal F_WRAPPED_ordinal (by decide)
  have ne_s_WRAPPED_s_LIST : ¬ (s_WRAPPED = s_LIST) := Fld.ne F_WRAPPED_ordinal F_LIST_ordinal (by decide)
  have ne_s_WRAPPED_s_MAP : ¬ (s_WRAPPED = s_MAP) := Fld.ne F_WRAPPED_ordinal F_MAP_ordinal (by decide)
  have ne_s_WRAPPED_s_SET : ¬ (s_WRAPPED = s_SET) := Fld.ne F_WRAPPED_ordinal F_SET_ordinal (by decide)
  have hd := own_mod i0 15 15 (by decide) (by decide)
  have key : ∃ w68 : Addr, (([(.ref s_LIST), (.ref s_SET), (.ref s_MAP), (.ref s_WRAPPED), (.ref s_BOOLEAN), (.ref s_CHAR), (.ref s_BYTE), (.ref s_SHORT), (.ref s_INT), (.ref s_LONG), (.ref s_FLOAT), (.ref s_DOUBLE), (.ref s_BIG_INT), (.ref s_BIG_DECIMAL), (.ref s_TIME)] : List Value).getD (((i0 &&& (2147483647 : Int32)) % (15 : Int32))).toNatClampNeg Value.null = Value.ref w68) ∧ (Exa s s.heap w68 "com/example/keep3/keep3/SerialForm$Hash") ∧ ((own_f1 w68 s_LIST s_SET s_MAP s_WRAPPED) = (if ((i0 &&& (2147483647 : Int32)) % (15 : Int32)) < (4 : Int32) then (1 : Int32) else (0 : Int32))) := by
    rcases own_upto15 ((i0 &&& (2147483647 : Int32)) % (15 : Int32)) hd.1 hd.2 with hk | hk | hk | hk | hk | hk | hk | hk | hk | hk | hk | hk | hk | hk | hk
    · rw [hk]
      exact ⟨s_LIST, rfl, E_LIST, (by rw [show (own_f1 s_LIST s_LIST s_SET s_MAP s_WRAPPED) = (1 : Int32) from by unfold own_f1; rw [if_pos rfl]]; decide)⟩
    · rw [hk]
      exact ⟨s_SET, rfl, E_SET, (by rw [show (own_f1 s_SET s_LIST s_SET s_MAP s_WRAPPED) = (1 : Int32) from by unfold own_f1; rw [if_neg ne_s_SET_s_LIST, if_pos rfl]]; decide)⟩
    · rw [hk]
      exact ⟨s_MAP, rfl, E_MAP, (by rw [show (own_f1 s_MAP s_LIST s_SET s_MAP s_WRAPPED) = (1 : Int32) from by unfold own_f1; rw [if_neg ne_s_MAP_s_LIST, if_neg ne_s_MAP_s_SET, if_pos rfl]]; decide)⟩
    · rw [hk]
      exact ⟨s_WRAPPED, rfl, E_WRAPPED, (by rw [show (own_f1 s_WRAPPED s_LIST s_SET s_MAP s_WRAPPED) = (1 : Int32) from by unfold own_f1; rw [if_neg ne_s_WRAPPED_s_LIST, if_neg ne_s_WRAPPED_s_SET, if_neg ne_s_WRAPPED_s_MAP, if_pos rfl]]; decide)⟩
    · rw [hk]
      exact ⟨s_BOOLEAN, rfl, E_BOOLEAN, (by rw [show (own_f1 s_BOOLEAN s_LIST s_SET s_MAP s_WRAPPED) = (0 : Int32) from by unfold own_f1; rw [if_neg ne_s_BOOLEAN_s_LIST, if_neg ne_s_BOOLEAN_s_SET, if_neg ne_s_BOOLEAN_s_MAP, if_neg ne_s_BOOLEAN_s_WRAPPED]]; decide)⟩
    · rw [hk]
      exact ⟨s_CHAR, rfl, E_CHAR, (by rw [show (own_f1 s_CHAR s_LIST s_SET s_MAP s_WRAPPED) = (0 : Int32) from by unfold own_f1; rw [if_neg ne_s_CHAR_s_LIST, if_neg ne_s_CHAR_s_SET, if_neg ne_s_CHAR_s_MAP, if_neg ne_s_CHAR_s_WRAPPED]]; decide)⟩
    · rw [hk]
      exact ⟨s_BYTE, rfl, E_BYTE, (by rw [show (own_f1 s_BYTE s_LIST s_SET s_MAP s_WRAPPED) = (0 : Int32) from by unfold own_f1; rw [if_neg ne_s_BYTE_s_LIST, if_neg ne_s_BYTE_s_SET, if_neg ne_s_BYTE_s_MAP, if_neg ne_s_BYTE_s_WRAPPED]]; decide)⟩
    · rw [hk]
      exact ⟨s_SHORT, rfl, E_SHORT, (by rw [show (own_f1 s_SHORT s_LIST s_SET s_MAP s_WRAPPED) = (0 : Int32) from by unfold own_f1; rw [if_neg ne_s_SHORT_s_LIST, if_neg ne_s_SHORT_s_SET, if_neg ne_s_SHORT_s_MAP, if_neg ne_s_SHORT_s_WRAPPED]]; decide)⟩
    · rw [hk]
      exact ⟨s_INT, rfl, E_INT, (by rw [show (own_f1 s_INT s_LIST s_SET s_MAP s_WRAPPED) = (0 : Int32) from by unfold own_f1; rw [if_neg ne_s_INT_s_LIST, if_neg ne_s_INT_s_SET, if_neg ne_s_INT_s_MAP, if_neg ne_s_INT_s_WRAPPED]]; decide)⟩
    · rw [hk]
      exact ⟨s_LONG, rfl, E_LONG, (by rw [show (own_f1 s_LONG s_LIST s_SET s_MAP s_WRAPPED) = (0 : Int32) from by unfold own_f1; rw [if_neg ne_s_LONG_s_LIST, if_neg ne_s_LONG_s_SET, if_neg ne_s_LONG_s_MAP, if_neg ne_s_LONG_s_WRAPPED]]; decide)⟩
    · rw [hk]
      exact ⟨s_FLOAT, rfl, E_FLOAT, (by rw [show (own_f1 s_FLOAT s_LIST s_SET s_MAP s_WRAPPED) = (0 : Int32) from by unfold own_f1; rw [if_neg ne_s_FLOAT_s_LIST, if_neg ne_s_FLOAT_s_SET, if_neg ne_s_FLOAT_s_MAP, if_neg ne_s_FLOAT_s_WRAPPED]]; decide)⟩
    · rw [hk]
      exact ⟨s_DOUBLE, rfl, E_DOUBLE, (by rw [show (own_f1 s_DOUBLE s_LIST s_SET s_MAP s_WRAPPED) = (0 : Int32) from by unfold own_f1; rw [if_neg ne_s_DOUBLE_s_LIST, if_neg ne_s_DOUBLE_s_SET, if_neg ne_s_DOUBLE_s_MAP, if_neg ne_s_DOUBLE_s_WRAPPED]]; decide)⟩
    · rw [hk]
      exact ⟨s_BIG_INT, rfl, E_BIG_INT, (by rw [show (own_f1 s_BIG_INT s_LIST s_SET s_MAP s_WRAPPED) = (0 : Int32) from by unfold own_f1; rw [if_neg ne_s_BIG_INT_s_LIST, if_neg ne_s_BIG_INT_s_SET, if_neg ne_s_BIG_INT_s_MAP, if_neg ne_s_BIG_INT_s_WRAPPED]]; decide)⟩
    · rw [hk]
      exact ⟨s_BIG_DECIMAL, rfl, E_BIG_DECIMAL, (by rw [show (own_f1 s_BIG_DECIMAL s_LIST s_SET s_MAP s_WRAPPED) = (0 : Int32) from by unfold own_f1; rw [if_neg ne_s_BIG_DECIMAL_s_LIST, if_neg ne_s_BIG_DECIMAL_s_SET, if_neg ne_s_BIG_DECIMAL_s_MAP, if_neg ne_s_BIG_DECIMAL_s_WRAPPED]]; decide)⟩
    · rw [hk]
      exact ⟨s_TIME, rfl, E_TIME, (by rw [show (own_f1 s_TIME s_LIST s_SET s_MAP s_WRAPPED) = (0 : Int32) from by unfold own_f1; rw [if_neg ne_s_TIME_s_LIST, if_neg ne_s_TIME_s_SET, if_neg ne_s_TIME_s_MAP, if_neg ne_s_TIME_s_WRAPPED]]; decide)⟩
  obtain ⟨w68, hel126, E_w68, hq131_1⟩ := key
  have hix126 : ¬ ((i0 &&& (2147483647 : Int32)) % (15 : Int32)) < 0 ∧ ((i0 &&& (2147483647 : Int32)) % (15 : Int32)) < (15 : Int32) := ⟨by rw [Int32.lt_iff_toInt_lt]; exact Int.not_lt.mpr hd.1, by rw [Int32.lt_iff_toInt_lt]; exact hd.2⟩
  obtain ⟨n, o, h1, h2, h3, _, L, rfl, ⟨rfl, N⟩, hq⟩ := rm0 l s _ hw tables_1 i0 s_LIST s_SET s_MAP s_WRAPPED s_BOOLEAN s_CHAR s_BYTE s_SHORT s_INT s_LONG s_FLOAT s_DOUBLE s_BIG_INT s_BIG_DECIMAL s_TIME w68 s.heap s.heap.size (Nat.le_refl _) S_LIST E_LIST S_SET E_SET S_MAP E_MAP S_WRAPPED E_WRAPPED S_BOOLEAN E_BOOLEAN S_CHAR E_CHAR S_BYTE E_BYTE S_SHORT E_SHORT S_INT E_INT S_LONG E_LONG S_FLOAT E_FLOAT S_DOUBLE E_DOUBLE S_BIG_INT E_BIG_INT S_BIG_DECIMAL E_BIG_DECIMAL S_TIME E_TIME hix126 hel126 E_w68 hq131_1 p e ha hc hk s m _ below hf ((Spec.applies_iff_loose hf).mp happ).1 ⟨rfl, State.Warmed39.refl s, rfl⟩ trivial
  refine ⟨n, _, h1, h2, h3, hpost _ _ _ _ _ _ ⟨Cond.after_iff.mpr rfl, Cond.after_iff.mpr (eq_i res_at (Term.int_eval (1)) rfl), trivial⟩ ⟨hq.1, hq.2.1, (hq.2.2.sift fun y hy => Or.inr (N y hy)).mono (by decide) (by decide)⟩⟩
theorem main_1_1 : Claimed_1_1 := comes_1 fun _ _ _ _ _ _ h hF => ⟨h.1, hF⟩
theorem main_1_2 : Claimed_1_2 := comes_1 fun _ _ _ _ _ _ h hF => ⟨h.2.1, hF⟩
end Jvm.Pilot.@@N@@
namespace Jvm.Pilot.@@N@@
open Jvm Jvm.ClassFile Sem Op Lib Jvm.Free Jvm.Stand Jvm.Pilot.@@N@@.Jvm.D
/-! MADE BY PROGRAM (witnessworld.py) out of the Statement's table words and the real class files: 13 classes; the members and pool entries that the words name. The judged class is class 1, her method 1. -/
namespace start1
open Jvm.ClassFile
def u (s : String) : CpInfo := .utf8 (stringToUtf16 s)
/-- a pool by its gaps: so many unusable entries, then the entry; so many at the end -/
def gap : Nat → List CpInfo → List CpInfo
  | 0, r => r
  | n + 1, r => .unusable :: gap n r
def poolList (es : List (Nat × CpInfo)) (last : Nat) : List CpInfo := es.foldr (fun e r => gap e.1 (e.2 :: r)) (gap last [])
def pool (es : List (Nat × CpInfo)) (last : Nat) : Array CpInfo := ⟨poolList es last⟩
def fileOf (pool : Array CpInfo) (this : Nat) (attrs : Array Attribute := #[]) (ms : Array MethodInfo := #[]) (fl : Nat := 33) (sup : Nat := 0) (ifs : Array Nat := #[]) (fds : Array FieldInfo := #[]) : ClassFile where
  minorVersion := 0
  majorVersion := 65
  constantPool := pool
  accessFlags := fl
  thisClass := this
  superClass := sup
  interfaces := ifs
  fields := fds
  methods := ms
  attributes := attrs
def plain (name : String) (sup : Option ClassId) : Class where
  name := name
  kind := .ordinary
  loader := none
  accessFlags := 33
  super := sup
  interfaces := #[]
  cf := none
  fields := #[]
  methods := #[]
  instanceTypes := #[]
  staticTypes := #[]
  resolved := #[]
  callSites := []
  init := .initialized
  statics := none
  mirror := none

def pool0 : Array CpInfo := pool [(5, u "<init>"), (0, u "()V"), (1, .class_ 10), (1, u "java/lang/Object")] 113

def k0m0 : Method := { name := "<init>", desc := "()V", sig := { parameters := [], returnType := none }, accessFlags := 1, code := none }
/-- java/lang/Object -/
def k0 : Class := { plain "java/lang/Object" none with
  accessFlags := 33
  interfaces := #[]
  cf := some (fileOf pool0 8 #[] #[{ accessFlags := 1, nameIndex := 5, descriptorIndex := 6, attributes := #[] }] 33 0 #[] #[])
  fields := #[]
  methods := #[k0m0]
  instanceTypes := #[]
  staticTypes := #[]
  resolved := Array.replicate 124 none
  statics := none }

def pool1 : Array CpInfo := pool [(2, .class_ 4), (1, u "java/lang/Object"), (0, u "<init>"), (0, u "()V"), (0, .class_ 8), (0, u "com/example/keep3/keep3/SerialForm$Hash"), (0, .fieldref 7 10), (0, .nameAndType 11 12), (0, u "LIST"), (0, u "Lcom/example/keep3/keep3/SerialForm$Hash;"), (0, .fieldref 7 14), (0, .nameAndType 15 12), (0, u "SET"), (0, .fieldref 7 17), (0, .nameAndType 18 12), (0, u "MAP"), (0, .fieldref 7 20), (0, .nameAndType 21 12), (0, u "WRAPPED"), (0, .fieldref 7 23), (0, .nameAndType 24 12), (0, u "BOOLEAN"), (0, .fieldref 7 26), (0, .nameAndType 27 12), (0, u "CHAR"), (0, .fieldref 7 29), (0, .nameAndType 30 12), (0, u "BYTE"), (0, .fieldref 7 32), (0, .nameAndType 33 12), (0, u "SHORT"), (0, .fieldref 7 35), (0, .nameAndType 36 12), (0, u "INT"), (0, .fieldref 7 38), (0, .nameAndType 39 12), (0, u "LONG"), (0, .fieldref 7 41), (0, .nameAndType 42 12), (0, u "FLOAT"), (0, .fieldref 7 44), (0, .nameAndType 45 12), (0, u "DOUBLE"), (0, .fieldref 7 47), (0, .nameAndType 48 12), (0, u "BIG_INT"), (0, .fieldref 7 50), (0, .nameAndType 51 12), (0, u "BIG_DECIMAL"), (0, .fieldref 7 53), (0, .nameAndType 54 12), (0, u "TIME"), (0, .integer 2147483647), (0, .methodref 7 57), (0, .nameAndType 58 59), (0, u "ofElements"), (0, u "()Z"), (0, .class_ 61), (0, u "com/example/keep3/keep3/HashOfElementsPinLaw"), (2, u "law"), (0, u "(I)Z")] 9

def k1m0 : Method := { name := "<init>", desc := "()V", sig := { parameters := [], returnType := none }, accessFlags := 1, code := none }
def k1c1 : Code := { maxStack := 4, maxLocals := 4, code := code, exceptionTable := #[], attributes := #[] }
def k1m1 : Method := { name := "law", desc := "(I)Z", sig := { parameters := [.int], returnType := some .boolean }, accessFlags := 9, code := some k1c1 }
/-- com/example/keep3/keep3/HashOfElementsPinLaw -/
def k1 : Class := { plain "com/example/keep3/keep3/HashOfElementsPinLaw" (some 0) with
  accessFlags := 49
  interfaces := #[]
  cf := some (fileOf pool1 60 #[] #[{ accessFlags := 1, nameIndex := 5, descriptorIndex := 6, attributes := #[] }, { accessFlags := 9, nameIndex := 64, descriptorIndex := 65, attributes := #[] }] 49 2 #[] #[])
  fields := #[]
  methods := #[k1m0, k1m1]
  instanceTypes := #[]
  staticTypes := #[]
  resolved := Array.replicate 75 none
  statics := none }

def pool2 : Array CpInfo := pool [(1, .class_ 2), (0, u "java/lang/constant/Constable"), (0, .class_ 4), (0, u "java/lang/Object")] 6

/-- java/lang/constant/Constable -/
def k2 : Class := { plain "java/lang/constant/Constable" (some 0) with
  accessFlags := 1537
  interfaces := #[]
  cf := some (fileOf pool2 1 #[] #[] 1537 3 #[] #[])
  fields := #[]
  methods := #[]
  instanceTypes := #[]
  staticTypes := #[]
  resolved := Array.replicate 11 none
  statics := none }

def pool3 : Array CpInfo := pool [(1, .class_ 2), (0, u "java/lang/Comparable"), (0, .class_ 4), (0, u "java/lang/Object")] 7

/-- java/lang/Comparable -/
def k3 : Class := { plain "java/lang/Comparable" (some 0) with
  accessFlags := 1537
  interfaces := #[]
  cf := some (fileOf pool3 1 #[] #[] 1537 3 #[] #[])
  fields := #[]
  methods := #[]
  instanceTypes := #[]
  staticTypes := #[]
  resolved := Array.replicate 12 none
  statics := none }

def pool4 : Array CpInfo := pool [(1, .class_ 2), (0, u "java/io/Serializable"), (0, .class_ 4), (0, u "java/lang/Object")] 2

/-- java/io/Serializable -/
def k4 : Class := { plain "java/io/Serializable" (some 0) with
  accessFlags := 1537
  interfaces := #[]
  cf := some (fileOf pool4 1 #[] #[] 1537 3 #[] #[])
  fields := #[]
  methods := #[]
  instanceTypes := #[]
  staticTypes := #[]
  resolved := Array.replicate 7 none
  statics := none }

def pool5 : Array CpInfo := pool [(2, .class_ 4), (1, u "java/lang/Enum"), (0, u "name"), (0, u "Ljava/lang/String;"), (2, u "ordinal"), (0, u "I"), (1, .class_ 14), (1, u "java/lang/Object"), (4, u "hash"), (86, .class_ 108), (1, u "java/lang/Enum$EnumDesc"), (2, .class_ 112), (0, u "java/lang/constant/Constable"), (0, .class_ 114), (0, u "java/lang/Comparable"), (0, .class_ 116), (0, u "java/io/Serializable")] 87

/-- java/lang/Enum -/
def k5 : Class := { plain "java/lang/Enum" (some 0) with
  accessFlags := 1057
  interfaces := #[2, 3, 4]
  cf := some (fileOf pool5 2 #[.nestMembers #[106]] #[] 1057 12 #[111, 113, 115] #[{ accessFlags := 18, nameIndex := 5, descriptorIndex := 6, attributes := #[] }, { accessFlags := 18, nameIndex := 9, descriptorIndex := 10, attributes := #[] }, { accessFlags := 2, nameIndex := 19, descriptorIndex := 10, attributes := #[] }])
  fields := #[{ name := "name", type := (.object "java/lang/String"), accessFlags := 18, slot := 0, constantValue := 0 }, { name := "ordinal", type := .int, accessFlags := 18, slot := 1, constantValue := 0 }, { name := "hash", type := .int, accessFlags := 2, slot := 2, constantValue := 0 }]
  methods := #[]
  instanceTypes := #[(.object "java/lang/String"), .int, .int]
  staticTypes := #[]
  resolved := Array.replicate 204 none
  statics := none }

def pool6 : Array CpInfo := pool [(1, .class_ 2), (0, u "com/example/keep3/keep3/SerialForm$Hash"), (0, .fieldref 1 4), (0, .nameAndType 5 6), (0, u "LIST"), (0, u "Lcom/example/keep3/keep3/SerialForm$Hash;"), (0, .fieldref 1 8), (0, .nameAndType 9 6), (0, u "SET"), (0, .fieldref 1 11), (0, .nameAndType 12 6), (0, u "MAP"), (0, .fieldref 1 14), (0, .nameAndType 15 6), (0, u "WRAPPED"), (2, u "BOOLEAN"), (2, u "CHAR"), (2, u "BYTE"), (2, u "SHORT"), (2, u "INT"), (2, u "LONG"), (2, u "FLOAT"), (2, u "DOUBLE"), (2, u "BIG_INT"), (2, u "BIG_DECIMAL"), (2, u "TIME"), (2, u "$VALUES"), (0, u "[Lcom/example/keep3/keep3/SerialForm$Hash;"), (6, .class_ 61), (1, u "java/lang/Enum"), (8, u "ofElements"), (0, u "()Z"), (308, .class_ 381), (0, u "com/example/keep3/keep3/SerialForm")] 16

def k6c0 : Code := { maxStack := 2, maxLocals := 1, code := prog_8_method_4_code, exceptionTable := #[], attributes := #[] }
def k6m0 : Method := { name := "ofElements", desc := "()Z", sig := { parameters := [], returnType := some .boolean }, accessFlags := 0, code := some k6c0 }
/-- com/example/keep3/keep3/SerialForm$Hash -/
def k6 : Class := { plain "com/example/keep3/keep3/SerialForm$Hash" (some 5) with
  accessFlags := 16432
  interfaces := #[]
  cf := some (fileOf pool6 1 #[.nestHost 380] #[{ accessFlags := 0, nameIndex := 70, descriptorIndex := 71, attributes := #[] }] 16432 59 #[] #[{ accessFlags := 16409, nameIndex := 5, descriptorIndex := 6, attributes := #[] }, { accessFlags := 16409, nameIndex := 9, descriptorIndex := 6, attributes := #[] }, { accessFlags := 16409, nameIndex := 12, descriptorIndex := 6, attributes := #[] }, { accessFlags := 16409, nameIndex := 15, descriptorIndex := 6, attributes := #[] }, { accessFlags := 16409, nameIndex := 18, descriptorIndex := 6, attributes := #[] }, { accessFlags := 16409, nameIndex := 21, descriptorIndex := 6, attributes := #[] }, { accessFlags := 16409, nameIndex := 24, descriptorIndex := 6, attributes := #[] }, { accessFlags := 16409, nameIndex := 27, descriptorIndex := 6, attributes := #[] }, { accessFlags := 16409, nameIndex := 30, descriptorIndex := 6, attributes := #[] }, { accessFlags := 16409, nameIndex := 33, descriptorIndex := 6, attributes := #[] }, { accessFlags := 16409, nameIndex := 36, descriptorIndex := 6, attributes := #[] }, { accessFlags := 16409, nameIndex := 39, descriptorIndex := 6, attributes := #[] }, { accessFlags := 16409, nameIndex := 42, descriptorIndex := 6, attributes := #[] }, { accessFlags := 16409, nameIndex := 45, descriptorIndex := 6, attributes := #[] }, { accessFlags := 16409, nameIndex := 48, descriptorIndex := 6, attributes := #[] }, { accessFlags := 4122, nameIndex := 51, descriptorIndex := 52, attributes := #[] }])
  fields := #[{ name := "LIST", type := (.object "com/example/keep3/keep3/SerialForm$Hash"), accessFlags := 16409, slot := 0, constantValue := 0 }, { name := "SET", type := (.object "com/example/keep3/keep3/SerialForm$Hash"), accessFlags := 16409, slot := 1, constantValue := 0 }, { name := "MAP", type := (.object "com/example/keep3/keep3/SerialForm$Hash"), accessFlags := 16409, slot := 2, constantValue := 0 }, { name := "WRAPPED", type := (.object "com/example/keep3/keep3/SerialForm$Hash"), accessFlags := 16409, slot := 3, constantValue := 0 }, { name := "BOOLEAN", type := (.object "com/example/keep3/keep3/SerialForm$Hash"), accessFlags := 16409, slot := 4, constantValue := 0 }, { name := "CHAR", type := (.object "com/example/keep3/keep3/SerialForm$Hash"), accessFlags := 16409, slot := 5, constantValue := 0 }, { name := "BYTE", type := (.object "com/example/keep3/keep3/SerialForm$Hash"), accessFlags := 16409, slot := 6, constantValue := 0 }, { name := "SHORT", type := (.object "com/example/keep3/keep3/SerialForm$Hash"), accessFlags := 16409, slot := 7, constantValue := 0 }, { name := "INT", type := (.object "com/example/keep3/keep3/SerialForm$Hash"), accessFlags := 16409, slot := 8, constantValue := 0 }, { name := "LONG", type := (.object "com/example/keep3/keep3/SerialForm$Hash"), accessFlags := 16409, slot := 9, constantValue := 0 }, { name := "FLOAT", type := (.object "com/example/keep3/keep3/SerialForm$Hash"), accessFlags := 16409, slot := 10, constantValue := 0 }, { name := "DOUBLE", type := (.object "com/example/keep3/keep3/SerialForm$Hash"), accessFlags := 16409, slot := 11, constantValue := 0 }, { name := "BIG_INT", type := (.object "com/example/keep3/keep3/SerialForm$Hash"), accessFlags := 16409, slot := 12, constantValue := 0 }, { name := "BIG_DECIMAL", type := (.object "com/example/keep3/keep3/SerialForm$Hash"), accessFlags := 16409, slot := 13, constantValue := 0 }, { name := "TIME", type := (.object "com/example/keep3/keep3/SerialForm$Hash"), accessFlags := 16409, slot := 14, constantValue := 0 }, { name := "$VALUES", type := (.array (.object "com/example/keep3/keep3/SerialForm$Hash")), accessFlags := 4122, slot := 15, constantValue := 0 }]
  methods := #[k6m0]
  instanceTypes := #[(.object "java/lang/String"), .int, .int]
  staticTypes := #[(.object "com/example/keep3/keep3/SerialForm$Hash"), (.object "com/example/keep3/keep3/SerialForm$Hash"), (.object "com/example/keep3/keep3/SerialForm$Hash"), (.object "com/example/keep3/keep3/SerialForm$Hash"), (.object "com/example/keep3/keep3/SerialForm$Hash"), (.object "com/example/keep3/keep3/SerialForm$Hash"), (.object "com/example/keep3/keep3/SerialForm$Hash"), (.object "com/example/keep3/keep3/SerialForm$Hash"), (.object "com/example/keep3/keep3/SerialForm$Hash"), (.object "com/example/keep3/keep3/SerialForm$Hash"), (.object "com/example/keep3/keep3/SerialForm$Hash"), (.object "com/example/keep3/keep3/SerialForm$Hash"), (.object "com/example/keep3/keep3/SerialForm$Hash"), (.object "com/example/keep3/keep3/SerialForm$Hash"), (.object "com/example/keep3/keep3/SerialForm$Hash"), (.array (.object "com/example/keep3/keep3/SerialForm$Hash"))]
  resolved := Array.replicate 398 none
  statics := some 0 }

def pool7 : Array CpInfo := pool [(1, u "java/lang/Cloneable"), (0, .class_ 1), (0, u "java/lang/Object"), (0, .class_ 3)] 3

/-- java/lang/Cloneable -/
def k7 : Class := { plain "java/lang/Cloneable" (some 0) with
  accessFlags := 1537
  interfaces := #[]
  cf := some (fileOf pool7 2 #[] #[] 1537 4 #[] #[])
  fields := #[]
  methods := #[]
  instanceTypes := #[]
  staticTypes := #[]
  resolved := Array.replicate 8 none
  statics := none }

/-- the primitive byte -/
def k8 : Class := { plain "byte" none with kind := .primitive 'B', accessFlags := 0x411 }
/-- [B -/
def k9 : Class := { plain "[B" (some 0) with kind := .array 8 .byte, interfaces := #[7, 4], accessFlags := 1041 }

/-- the primitive int -/
def k10 : Class := { plain "int" none with kind := .primitive 'I', accessFlags := 0x411 }
/-- [I -/
def k11 : Class := { plain "[I" (some 0) with kind := .array 10 .int, interfaces := #[7, 4], accessFlags := 1041 }

/-- [Lcom/example/keep3/keep3/SerialForm$Hash; -/
def k12 : Class := { plain "[Lcom/example/keep3/keep3/SerialForm$Hash;" (some 0) with kind := .array 6 (.object "com/example/keep3/keep3/SerialForm$Hash"), interfaces := #[7, 4], accessFlags := 1041 }

def heap : Heap := #[{ cls := 6, slots := #[.ref 1, .ref 2, .ref 3, .ref 4, .ref 5, .ref 6, .ref 7, .ref 8, .ref 9, .ref 10, .ref 11, .ref 12, .ref 13, .ref 14, .ref 15, .null], vm := .statics 6 },
  { cls := 6, slots := #[.null, .int 0, .int 0], vm := .none },
  { cls := 6, slots := #[.null, .int 1, .int 0], vm := .none },
  { cls := 6, slots := #[.null, .int 2, .int 0], vm := .none },
  { cls := 6, slots := #[.null, .int 3, .int 0], vm := .none },
  { cls := 6, slots := #[.null, .int 4, .int 0], vm := .none },
  { cls := 6, slots := #[.null, .int 5, .int 0], vm := .none },
  { cls := 6, slots := #[.null, .int 6, .int 0], vm := .none },
  { cls := 6, slots := #[.null, .int 7, .int 0], vm := .none },
  { cls := 6, slots := #[.null, .int 8, .int 0], vm := .none },
  { cls := 6, slots := #[.null, .int 9, .int 0], vm := .none },
  { cls := 6, slots := #[.null, .int 10, .int 0], vm := .none },
  { cls := 6, slots := #[.null, .int 11, .int 0], vm := .none },
  { cls := 6, slots := #[.null, .int 12, .int 0], vm := .none },
  { cls := 6, slots := #[.null, .int 13, .int 0], vm := .none },
  { cls := 6, slots := #[.null, .int 14, .int 0], vm := .none }]
def classes : Array Class := #[k0, k1, k2, k3, k4, k5, k6, k7, k8, k9, k10, k11, k12]
def interned : List (Array UInt16 × Addr) := []
def slotsUsed : Nat := 61
def theMethod : MethodId := ⟨1, 1⟩
def args0 : Array Value := #[.int 5]
def aboutOver (below : List Frame) : State where
  vm := { classes := classes, interned := interned.toArray }
  heap := heap
  slotsUsed := slotsUsed
  threads := #[{ frames := .invoking theMethod args0 :: below }]
def below0 : List Frame := [.native { method := ⟨0, 0⟩, args := #[] }]
def about1 : State := aboutOver below0
def p0 : Program := .bare "" "" ""
def e0 : Env := launch0.env 0 0 0
theorem w_frames : about1.frames = Frame.invoking theMethod args0 :: below0 := rfl
set_option maxRecDepth 65536 in
theorem w_args : argsFit about1.vm theMethod args0 = true := by decide +kernel
set_option maxRecDepth 65536 in
theorem w_heap : heapFits about1 = true := by decide +kernel
set_option maxRecDepth 65536 in
theorem w_runnable : about1.curStatus? = some .runnable := by decide +kernel
set_option maxRecDepth 65536 in
theorem w_alone : about1.alone = true := by decide +kernel
set_option maxRecDepth 65536 in
theorem w_named : about1.methodNamed? x = some theMethod := by decide +kernel
set_option maxRecDepth 65536 in
theorem w_hears : about1.hears theMethod below0 = true := by decide +kernel
set_option maxRecDepth 65536 in
theorem w_ripe : about1.ripe theMethod args0 below0 = true := by decide +kernel
theorem w_running : about1.status = .running := rfl
set_option maxRecDepth 65536 in
theorem w_room : about1.hasRoom e0.platform room_1 = true :=
  launch0.hasRoom_least _ room_1 (by decide +kernel) (by decide +kernel) (by decide +kernel) (by decide +kernel) (by decide +kernel) (by decide +kernel)
theorem allAtoms_all (ts : List Jvm.Cond) (a : Array Jvm.Value) (st : Jvm.State) : (allAtoms ts).before a st = ts.all (fun c => c.before a st) := by
  induction ts with
  | nil => rfl
  | cons c t ih =>
    show (Jvm.Cond.and c (allAtoms t)).before a st = _
    rw [Jvm.Cond.before_and, ih, List.all_cons]
def words1 : List Jvm.Cond := Jvm.Cond.code x code maxLocals ret :: tables_1
/-- a 'code' word, met by the world's own term for the bytes: nothing is compared byte by byte -/
theorem code_word {y : MethodName} {bytes : ByteArray} {mx : Nat} {rt : Option FieldType} {a : Array Value} {s : State} {m : MethodId} {meth : Method} {c : Code} (h1 : s.methodNamed? y = some m) (h2 : s.vm.method? m = some meth) (h3 : meth.code = some c) (h4 : c.code = bytes)
    (h5 : (c.maxLocals == mx && c.exceptionTable.isEmpty && decide (c.maxStack ≤ mostOperands) && decide (meth.sig.returnType = rt) && !meth.locks && decide (parseMethodDescriptor y.desc = some meth.sig)) = true) : (Jvm.Cond.code y bytes mx rt).before a s = true := by
  simp only [Bool.and_eq_true, beq_iff_eq, Bool.not_eq_true', decide_eq_true_eq] at h5
  obtain ⟨⟨⟨⟨⟨g1, g2⟩, g3⟩, g4⟩, g5⟩, g6⟩ := h5
  simp [Cond.before, Cond.holds, Cond.value, h1, h2, h3, h4, g1, g2, g3, g4, g5, g6]
def isCode : Jvm.Cond → Bool
  | .code _ _ _ _ => true
  | _ => false
theorem all_split {L : List Jvm.Cond} {P : Jvm.Cond → Bool} (h1 : L.all (fun c => isCode c || P c) = true) (h2 : ∀ c ∈ L.filter isCode, P c = true) : L.all P = true := by
  refine List.all_eq_true.mpr fun c hc => ?_
  have h := List.all_eq_true.mp h1 c hc
  rcases Bool.eq_false_or_eq_true (isCode c) with hi | hi
  · exact h2 c (List.mem_filter.mpr ⟨hc, hi⟩)
  · simpa [hi] using h
set_option maxRecDepth 65536 in
theorem w_c0 : (Jvm.Cond.code x code maxLocals ret).before args0 about1 = true := code_word (m := ⟨1, 1⟩) (meth := k1m1) (c := k1c1) (by decide +kernel) rfl rfl rfl (by decide +kernel)
set_option maxRecDepth 65536 in
theorem w_c1 : (Jvm.Cond.code ({ cls := "com/example/keep3/keep3/SerialForm$Hash", name := "ofElements", desc := "()Z" } : Jvm.MethodName) prog_8_method_4_code (1 : Nat) (Option.some Jvm.ClassFile.FieldType.boolean)).before args0 about1 = true := code_word (m := ⟨6, 0⟩) (meth := k6m0) (c := k6c0) (by decide +kernel) rfl rfl rfl (by decide +kernel)
def codes1 : List Jvm.Cond := [Jvm.Cond.code x code maxLocals ret, Jvm.Cond.code ({ cls := "com/example/keep3/keep3/SerialForm$Hash", name := "ofElements", desc := "()Z" } : Jvm.MethodName) prog_8_method_4_code (1 : Nat) (Option.some Jvm.ClassFile.FieldType.boolean)]
set_option maxRecDepth 65536 in
theorem codes_eq : words1.filter isCode = codes1 := rfl
theorem w_codes : ∀ c ∈ words1.filter isCode, c.before args0 about1 = true := by
  rw [codes_eq]
  intro c hc
  simp only [codes1, List.mem_cons, List.not_mem_nil, or_false] at hc
  rcases hc with rfl | rfl
  · exact w_c0
  · exact w_c1
set_option maxRecDepth 65536 in
theorem w_t1 : (words1.take 24).all (fun c => isCode c || c.before args0 about1) = true := by decide +kernel
set_option maxRecDepth 65536 in
theorem w_t2 : (words1.drop 24).all (fun c => isCode c || c.before args0 about1) = true := by decide +kernel
theorem w_tables : (allAtoms (Jvm.Cond.code x code maxLocals ret :: tables_1)).before args0 about1 = true := by
  rw [allAtoms_all]
  show words1.all (fun c => c.before args0 about1) = true
  refine all_split ?_ w_codes
  rw [← List.take_append_drop 24 words1, List.all_append, w_t1, w_t2]
  rfl
set_option maxRecDepth 65536 in
theorem w_case : (Jvm.Cond.and given_1 narrow_1).before args0 about1 = true := by decide +kernel
theorem w_applies : (headSpec (Jvm.Cond.code x code maxLocals ret :: tables_1) room_1).applies x e0.platform about1 = true :=
  (Spec.applies_iff w_frames).mpr ⟨w_running, w_runnable, w_alone, w_named, w_hears, w_ripe, w_room, w_tables⟩
theorem atStart : AtStart classFile x code maxLocals ret World_1 tables_1 room_1 Calls_1 rest_1 Pre_1 launch0 p0 e0 about1 theMethod args0 below0 :=
  ⟨lists_1, trivial, launch0.admits_env _ _ _, launch0.least_env, fairChoices_fair.cas, fairChoices_fair.clock, w_frames, w_args, w_heap, w_applies, trivial, trivial, w_case⟩
end start1
theorem witness_1 : WitnessClaimed_1 := ⟨start1.p0, start1.e0, start1.about1, start1.theMethod, start1.args0, start1.below0, start1.atStart⟩
end Jvm.Pilot.@@N@@
