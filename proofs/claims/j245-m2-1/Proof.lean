import JvmDerived
import JvmDerived.Pilot.@@N@@Statement
import JvmDerived.Pilot.@@N@@Code
set_option linter.unusedVariables false
set_option linter.unusedSimpArgs false
namespace Jvm.Pilot.@@N@@
open Jvm Jvm.ClassFile Sem Op Lib Jvm.Free Jvm.Stand Jvm.LawKit Jvm.RoadKit Bundle Jvm.Pilot.@@N@@.Jvm.D
theorem own_fldI {Z : State} {args : Array Value} {t : Term} {a : Addr} {C n d : String} {z : Int32} (ev : t.eval args Z none [] Z = some (.ref a)) (h : (Cond.eq (Term.field t C n d) (Term.int z)).value args Z none Z [] = some true) : Fld Z Z.heap a C n d (.int z) := by
  obtain ⟨x, y, h1, h2, k1, k2⟩ := cmp_v (Or.inl h)
  have e2 : y = .int z := (Option.some.inj h2).symm
  subst e2
  obtain ⟨w, rfl⟩ := k2
  have hq : (Cond.eq (Term.field t C n d) (Term.int z)).value args Z none Z [] = some (decide (w = z)) := by simp [Cond.value, h1, h2]
  have hw : w = z := gotT hq h
  subst hw
  exact Fld.start ((fld_at ev).symm.trans h1)
theorem own_fldJ {Z : State} {args : Array Value} {t : Term} {a : Addr} {C n d : String} {z : Int64} (ev : t.eval args Z none [] Z = some (.ref a)) (h : (Cond.eq (Term.field t C n d) (Term.long z)).value args Z none Z [] = some true) : Fld Z Z.heap a C n d (.long z) := by
  obtain ⟨x, y, h1, h2, k1, k2⟩ := cmp_v (Or.inl h)
  have e2 : y = .long z := (Option.some.inj h2).symm
  subst e2
  obtain ⟨w, rfl⟩ := k2
  have hq : (Cond.eq (Term.field t C n d) (Term.long z)).value args Z none Z [] = some (decide (w = z)) := eq_L h1 h2
  have hw : w = z := gotT hq h
  subst hw
  exact Fld.start ((fld_at ev).symm.trans h1)
theorem own_arrKeep {Z : State} {h h' : Heap} {ws : List Addr} {a : Addr} {c : Cell} {ty : FieldType} (F : Arr Z h a c ty) (K : Keep h h' ws) (q : a ∉ ws) : Arr Z h' a c ty := ⟨K.2.1 _ _ F.1 q, F.2⟩
theorem own_staKeep {Z : State} {h h' : Heap} {ws : List Addr} {C n d : String} {v : Value} (F : Sta Z h C n d v) (K : Keep h h' ws) (q : ∀ x ∈ ws, ∀ c : Cell, h[x]? = some c → c.vm.isStatics = false) : Sta Z h' C n d v := by
  obtain ⟨cf, i, k, f, st, cell, h1, h2, h3, h4, h5, h6, h7⟩ := F
  exact ⟨cf, i, k, f, st, cell, h1, h2, h3, h4, K.2.1 _ _ h5 (fun z => by rw [q _ z _ h5] at h6; cases h6), h6, h7⟩
theorem own_mask31 (x : Int32) : 0 ≤ (x &&& 2147483647).toInt := by
  have h := c_mask x 2147483647 31 (by decide) (by decide)
  rw [h]; exact Int.emod_nonneg _ (by decide)
theorem own_mod (x : Int32) (y : Int32) (d : Int) (hy : y.toInt = d) (hd : 0 < d) : 0 ≤ ((x &&& 2147483647) % y).toInt ∧ ((x &&& 2147483647) % y).toInt < d := by
  have h := (c_irem (x &&& 2147483647) y d hy).1 (own_mask31 x)
  rw [h]; exact ⟨Int.emod_nonneg _ (by omega), Int.emod_lt_of_pos _ hd⟩
theorem own_and (x m : Int32) (hm : 0 ≤ m.toInt) : 0 ≤ (x &&& m).toInt ∧ (x &&& m).toInt ≤ m.toInt := c_and x m hm
theorem own_upto4 (y : Int32) (h0 : 0 ≤ y.toInt) (h1 : y.toInt < 4) : y = 0 ∨ y = 1 ∨ y = 2 ∨ y = 3 := by
  have h : y.toInt = 0 ∨ y.toInt = 1 ∨ y.toInt = 2 ∨ y.toInt = 3 := by omega
  rcases h with h | h | h | h
  · exact Or.inl (Int32.toInt_inj.mp (h.trans rfl))
  · exact Or.inr (Or.inl (Int32.toInt_inj.mp (h.trans rfl)))
  · exact Or.inr (Or.inr (Or.inl (Int32.toInt_inj.mp (h.trans rfl))))
  · exact Or.inr (Or.inr (Or.inr ((Int32.toInt_inj.mp (h.trans rfl)))))
def own_f1 (p1 : Int32) (s_PERSISTENT : Addr) (s_EPHEMERAL : Addr) (s_PERSISTENT_SEQUENTIAL : Addr) (s_EPHEMERAL_SEQUENTIAL : Addr) : Addr := (if p1 = (0 : Int32) then s_PERSISTENT else (if p1 = (1 : Int32) then s_EPHEMERAL else (if p1 = (2 : Int32) then s_PERSISTENT_SEQUENTIAL else s_EPHEMERAL_SEQUENTIAL)))
theorem d1_0 : decode method_2_code 0 = .ok (.iload_n 0, 1) := by decide +kernel
theorem d1_1 : decode method_2_code 1 = .ok (.ifCond .ne 7, 3) := by decide +kernel
theorem d1_4 : decode method_2_code 4 = .ok (.getstatic 7, 3) := by decide +kernel
theorem d1_7 : decode method_2_code 7 = .ok (.areturn, 1) := by decide +kernel
theorem d1_8 : decode method_2_code 8 = .ok (.iload_n 0, 1) := by decide +kernel
theorem d1_9 : decode method_2_code 9 = .ok (.iconst 1, 1) := by decide +kernel
theorem d1_10 : decode method_2_code 10 = .ok (.if_icmp .ne 7, 3) := by decide +kernel
theorem d1_13 : decode method_2_code 13 = .ok (.getstatic 13, 3) := by decide +kernel
theorem d1_16 : decode method_2_code 16 = .ok (.areturn, 1) := by decide +kernel
theorem d1_17 : decode method_2_code 17 = .ok (.iload_n 0, 1) := by decide +kernel
theorem d1_18 : decode method_2_code 18 = .ok (.iconst 2, 1) := by decide +kernel
theorem d1_19 : decode method_2_code 19 = .ok (.if_icmp .ne 7, 3) := by decide +kernel
theorem d1_22 : decode method_2_code 22 = .ok (.getstatic 16, 3) := by decide +kernel
theorem d1_25 : decode method_2_code 25 = .ok (.areturn, 1) := by decide +kernel
theorem d1_26 : decode method_2_code 26 = .ok (.getstatic 19, 3) := by decide +kernel
theorem d1_29 : decode method_2_code 29 = .ok (.areturn, 1) := by decide +kernel
theorem pn_1 : plainName "com/example/coordination_tree/coordinationtree/protocol/NodeKindEphemeralPinLaw" = true := by first | (simp [plainName, overriddenIn]; done) | decide +kernel
theorem ef_1 (m : MethodId) (x0 : Int32) : entryFrame m #[(.int x0)] 1 = mkF m 0 #[.val (.int x0)] [] := by first | (simp [entryFrame, mkF, argsToLocals, Value.category]; done) | rfl
def Q1 (Z : State) (p1 : Int32) (s_PERSISTENT : Addr) (s_EPHEMERAL : Addr) (s_PERSISTENT_SEQUENTIAL : Addr) (s_EPHEMERAL_SEQUENTIAL : Addr) (h0 : Heap) (n0 : Nat) (v : Option Value) (h : Heap) (L : List Loc) : Prop := v = some (.ref (own_f1 p1 s_PERSISTENT s_EPHEMERAL s_PERSISTENT_SEQUENTIAL s_EPHEMERAL_SEQUENTIAL)) ∧ Fr n0 L ∧ h = h0
set_option maxRecDepth 65536 in
set_option maxHeartbeats 40000000 in
theorem rm1 (l : Launch) (Z : State) (a0 : Array Value) (hw : ∀ d ∈ tables_1, d.before a0 Z = true) (ws : List Jvm.Cond) (p1 : Int32) (s_PERSISTENT : Addr) (s_EPHEMERAL : Addr) (s_PERSISTENT_SEQUENTIAL : Addr) (s_EPHEMERAL_SEQUENTIAL : Addr) (h0 : Heap) (n0 : Nat) (Z0 : n0 ≤ h0.size) (S_PERSISTENT : Sta Z h0 "com/example/coordination_tree/coordinationtree/protocol/NodeKind" "PERSISTENT" "Lcom/example/coordination_tree/coordinationtree/protocol/NodeKind;" (.ref s_PERSISTENT)) (S_EPHEMERAL : Sta Z h0 "com/example/coordination_tree/coordinationtree/protocol/NodeKind" "EPHEMERAL" "Lcom/example/coordination_tree/coordinationtree/protocol/NodeKind;" (.ref s_EPHEMERAL)) (S_PERSISTENT_SEQUENTIAL : Sta Z h0 "com/example/coordination_tree/coordinationtree/protocol/NodeKind" "PERSISTENT_SEQUENTIAL" "Lcom/example/coordination_tree/coordinationtree/protocol/NodeKind;" (.ref s_PERSISTENT_SEQUENTIAL)) (S_EPHEMERAL_SEQUENTIAL : Sta Z h0 "com/example/coordination_tree/coordinationtree/protocol/NodeKind" "EPHEMERAL_SEQUENTIAL" "Lcom/example/coordination_tree/coordinationtree/protocol/NodeKind;" (.ref s_EPHEMERAL_SEQUENTIAL)) :
    MetFree l (⟨"com/example/coordination_tree/coordinationtree/protocol/NodeKindEphemeralPinLaw", "pick", "(I)Lcom/example/coordination_tree/coordinationtree/protocol/NodeKind;"⟩ : MethodName) (head1 (Jvm.Cond.code (⟨"com/example/coordination_tree/coordinationtree/protocol/NodeKindEphemeralPinLaw", "pick", "(I)Lcom/example/coordination_tree/coordinationtree/protocol/NodeKind;"⟩ : MethodName) method_2_code 1 (some (.object "com/example/coordination_tree/coordinationtree/protocol/NodeKind")) :: ws) ({ frames := 0, cells := 0, slots := 0, locals := 0 } : Room)) (fun a U => a = #[(.int p1)] ∧ Z.Warmed39 U.vm ∧ U.heap = h0) (fun _ _ _ _ _ => True) (fun _ U o U' => ∃ v L, o = .returned v ∧ Q1 Z p1 s_PERSISTENT s_EPHEMERAL s_PERSISTENT_SEQUENTIAL s_EPHEMERAL_SEQUENTIAL h0 n0 v U'.heap L ∧ FrameEnd U o U' L ({ frames := 0, cells := 0, slots := 0, locals := 0 } : Room).cells ({ frames := 0, cells := 0, slots := 0, locals := 0 } : Room).slots) := by
  refine MetFree.of_bodySF (plainFor_of_name pn_1) hisR ?_
  intro p e s m args below meth c s₁ Bd hml0 hP hK
  obtain ⟨rfl, hZ, hh⟩ := hP
  have hx := Bd.exec
  have hby := Bd.bytes
  have hml : c.maxLocals = 1 := hml0
  have hown : s.vm.findClass "com/example/coordination_tree/coordinationtree/protocol/NodeKindEphemeralPinLaw" = some m.cls := findClass_of_methodNamed Bd.named
  have hnm := (name_of_methodNamed Bd.named Bd.method).1
  have X0 : Stand p l e ({ frames := 0, cells := 0, slots := 0, locals := 0 } : Room) s m #[(.int p1)] below meth c s₁ [] 0 0 := Stand.of_body Bd
  have e0 : s₁.heap = h0 := by rw [← hh, Bd.state]; rfl
  have N0 := Fr.nil n0
  have pre0 : ∀ t, Steps p.tables e below (s₁.setTop (mkF m 0 #[.val (.int p1)] [])) t → Steps p.tables e below (s₁.setTop (entryFrame m #[(.int p1)] 1)) t := fun t k => castTop (ef_1 m p1) k
  have pr3 : ∀ t, Steps p.tables e below (s₁.setTop (mkF m 1 #[.val (.int p1)] [(.int p1)])) t → Steps p.tables e below (s₁.setTop (entryFrame m #[(.int p1)] 1)) t := by
    intro t k
    refine pre0 t ?_
    show Steps p.tables e below (s₁.setTop (mkF m 0 #[.val (.int p1)] [])) _
    refine XS.iloadN X0.here hx rfl (hb hby d1_0) rfl ?_
    show Steps p.tables e below (s₁.setTop (mkF m 1 #[.val (.int p1)] [(.int p1)])) _
    exact k
  by_cases hc2 : p1 = (0 : Int32)
  · obtain ⟨T4, X4, e4, st4⟩ := getS2 X0 hx hZ hown (host := "") (Or.inl (hw _ (List.mem_of_getElem? (i := 4) rfl))) Via.refl e0 S_PERSISTENT (g := (mkF m 4 #[.val (.int p1)] [])) rfl (hb hby d1_4)
    obtain ⟨fs, hr, hrun, hended, hW, hsame⟩ := X4.leave (v := some (.ref s_PERSISTENT)) (fun h => by rw [Bd.returns] at h; cases h)
    refine ⟨_, _, pr3 _ ?_, hrun, hended, _, _, rfl, ?_, ⟨_, rfl⟩, hW, hsame.mono (by decide) (by decide)⟩
    · show Steps p.tables e below (s₁.setTop (mkF m 1 #[.val (.int p1)] [(.int p1)])) _
      refine XS.ifNo X0.here hx rfl (hb hby d1_1) rfl ((if0 _ _).trans (teq hc2).2) ?_
      show Steps p.tables e below (s₁.setTop (mkF m 4 #[.val (.int p1)] [])) _
      refine st4 _ ?_
      show Steps p.tables e below (T4.setTop (mkF m 7 #[.val (.int p1)] [(.ref s_PERSISTENT)])) _
      exact retOut X4 hx Bd.returns rfl (Or.inr (Or.inr (Or.inr (Or.inr ⟨rfl, rfl, rfl⟩)))) (hb hby d1_7) hr
    · show Q1 Z p1 s_PERSISTENT s_EPHEMERAL s_PERSISTENT_SEQUENTIAL s_EPHEMERAL_SEQUENTIAL h0 n0 _ T4.heap _
      rw [e4]
      exact ⟨(by rw [show (own_f1 p1 s_PERSISTENT s_EPHEMERAL s_PERSISTENT_SEQUENTIAL s_EPHEMERAL_SEQUENTIAL) = s_PERSISTENT from by unfold own_f1; rw [if_pos hc2]]), N0, rfl⟩
  · have pr6 : ∀ t, Steps p.tables e below (s₁.setTop (mkF m 10 #[.val (.int p1)] [(.int (1 : Int32)), (.int p1)])) t → Steps p.tables e below (s₁.setTop (entryFrame m #[(.int p1)] 1)) t := by
      intro t k
      refine pr3 t ?_
      show Steps p.tables e below (s₁.setTop (mkF m 1 #[.val (.int p1)] [(.int p1)])) _
      refine XS.ifYes X0.here hx rfl (pc0 := 1) (pc' := 8) rfl (hb hby d1_1) rfl ((if0 _ _).trans (feq hc2).2) (by decide) (by decide) ?_
      show Steps p.tables e below (s₁.setTop (mkF m 8 #[.val (.int p1)] [])) _
      refine XS.iloadN X0.here hx rfl (hb hby d1_8) rfl ?_
      show Steps p.tables e below (s₁.setTop (mkF m 9 #[.val (.int p1)] [(.int p1)])) _
      refine XS.iconst X0.here hx rfl (hb hby d1_9) ?_
      show Steps p.tables e below (s₁.setTop (mkF m 10 #[.val (.int p1)] [(.int (1 : Int32)), (.int p1)])) _
      exact k
    by_cases hc5 : p1 = (1 : Int32)
    · obtain ⟨T7, X7, e7, st7⟩ := getS2 X0 hx hZ hown (host := "") (Or.inl (hw _ (List.mem_of_getElem? (i := 7) rfl))) Via.refl e0 S_EPHEMERAL (g := (mkF m 13 #[.val (.int p1)] [])) rfl (hb hby d1_13)
      obtain ⟨fs, hr, hrun, hended, hW, hsame⟩ := X7.leave (v := some (.ref s_EPHEMERAL)) (fun h => by rw [Bd.returns] at h; cases h)
      refine ⟨_, _, pr6 _ ?_, hrun, hended, _, _, rfl, ?_, ⟨_, rfl⟩, hW, hsame.mono (by decide) (by decide)⟩
      · show Steps p.tables e below (s₁.setTop (mkF m 10 #[.val (.int p1)] [(.int (1 : Int32)), (.int p1)])) _
        refine XS.icmpNo X0.here hx rfl (hb hby d1_10) rfl (teq hc5).2 ?_
        show Steps p.tables e below (s₁.setTop (mkF m 13 #[.val (.int p1)] [])) _
        refine st7 _ ?_
        show Steps p.tables e below (T7.setTop (mkF m 16 #[.val (.int p1)] [(.ref s_EPHEMERAL)])) _
        exact retOut X7 hx Bd.returns rfl (Or.inr (Or.inr (Or.inr (Or.inr ⟨rfl, rfl, rfl⟩)))) (hb hby d1_16) hr
      · show Q1 Z p1 s_PERSISTENT s_EPHEMERAL s_PERSISTENT_SEQUENTIAL s_EPHEMERAL_SEQUENTIAL h0 n0 _ T7.heap _
        rw [e7]
        exact ⟨(by rw [show (own_f1 p1 s_PERSISTENT s_EPHEMERAL s_PERSISTENT_SEQUENTIAL s_EPHEMERAL_SEQUENTIAL) = s_EPHEMERAL from by unfold own_f1; rw [if_neg hc2, if_pos hc5]]), N0, rfl⟩
    · have pr9 : ∀ t, Steps p.tables e below (s₁.setTop (mkF m 19 #[.val (.int p1)] [(.int (2 : Int32)), (.int p1)])) t → Steps p.tables e below (s₁.setTop (entryFrame m #[(.int p1)] 1)) t := by
        intro t k
        refine pr6 t ?_
        show Steps p.tables e below (s₁.setTop (mkF m 10 #[.val (.int p1)] [(.int (1 : Int32)), (.int p1)])) _
        refine XS.icmpYes X0.here hx rfl (pc0 := 10) (pc' := 17) rfl (hb hby d1_10) rfl (feq hc5).2 (by decide) (by decide) ?_
        show Steps p.tables e below (s₁.setTop (mkF m 17 #[.val (.int p1)] [])) _
        refine XS.iloadN X0.here hx rfl (hb hby d1_17) rfl ?_
        show Steps p.tables e below (s₁.setTop (mkF m 18 #[.val (.int p1)] [(.int p1)])) _
        refine XS.iconst X0.here hx rfl (hb hby d1_18) ?_
        show Steps p.tables e below (s₁.setTop (mkF m 19 #[.val (.int p1)] [(.int (2 : Int32)), (.int p1)])) _
        exact k
      by_cases hc8 : p1 = (2 : Int32)
      · obtain ⟨T10, X10, e10, st10⟩ := getS2 X0 hx hZ hown (host := "") (Or.inl (hw _ (List.mem_of_getElem? (i := 18) rfl))) Via.refl e0 S_PERSISTENT_SEQUENTIAL (g := (mkF m 22 #[.val (.int p1)] [])) rfl (hb hby d1_22)
        obtain ⟨fs, hr, hrun, hended, hW, hsame⟩ := X10.leave (v := some (.ref s_PERSISTENT_SEQUENTIAL)) (fun h => by rw [Bd.returns] at h; cases h)
        refine ⟨_, _, pr9 _ ?_, hrun, hended, _, _, rfl, ?_, ⟨_, rfl⟩, hW, hsame.mono (by decide) (by decide)⟩
        · show Steps p.tables e below (s₁.setTop (mkF m 19 #[.val (.int p1)] [(.int (2 : Int32)), (.int p1)])) _
          refine XS.icmpNo X0.here hx rfl (hb hby d1_19) rfl (teq hc8).2 ?_
          show Steps p.tables e below (s₁.setTop (mkF m 22 #[.val (.int p1)] [])) _
          refine st10 _ ?_
          show Steps p.tables e below (T10.setTop (mkF m 25 #[.val (.int p1)] [(.ref s_PERSISTENT_SEQUENTIAL)])) _
          exact retOut X10 hx Bd.returns rfl (Or.inr (Or.inr (Or.inr (Or.inr ⟨rfl, rfl, rfl⟩)))) (hb hby d1_25) hr
        · show Q1 Z p1 s_PERSISTENT s_EPHEMERAL s_PERSISTENT_SEQUENTIAL s_EPHEMERAL_SEQUENTIAL h0 n0 _ T10.heap _
          rw [e10]
          exact ⟨(by rw [show (own_f1 p1 s_PERSISTENT s_EPHEMERAL s_PERSISTENT_SEQUENTIAL s_EPHEMERAL_SEQUENTIAL) = s_PERSISTENT_SEQUENTIAL from by unfold own_f1; rw [if_neg hc2, if_neg hc5, if_pos hc8]]), N0, rfl⟩
      · obtain ⟨T11, X11, e11, st11⟩ := getS2 X0 hx hZ hown (host := "") (Or.inl (hw _ (List.mem_of_getElem? (i := 9) rfl))) Via.refl e0 S_EPHEMERAL_SEQUENTIAL (g := (mkF m 26 #[.val (.int p1)] [])) rfl (hb hby d1_26)
        obtain ⟨fs, hr, hrun, hended, hW, hsame⟩ := X11.leave (v := some (.ref s_EPHEMERAL_SEQUENTIAL)) (fun h => by rw [Bd.returns] at h; cases h)
        refine ⟨_, _, pr9 _ ?_, hrun, hended, _, _, rfl, ?_, ⟨_, rfl⟩, hW, hsame.mono (by decide) (by decide)⟩
        · show Steps p.tables e below (s₁.setTop (mkF m 19 #[.val (.int p1)] [(.int (2 : Int32)), (.int p1)])) _
          refine XS.icmpYes X0.here hx rfl (pc0 := 19) (pc' := 26) rfl (hb hby d1_19) rfl (feq hc8).2 (by decide) (by decide) ?_
          show Steps p.tables e below (s₁.setTop (mkF m 26 #[.val (.int p1)] [])) _
          refine st11 _ ?_
          show Steps p.tables e below (T11.setTop (mkF m 29 #[.val (.int p1)] [(.ref s_EPHEMERAL_SEQUENTIAL)])) _
          exact retOut X11 hx Bd.returns rfl (Or.inr (Or.inr (Or.inr (Or.inr ⟨rfl, rfl, rfl⟩)))) (hb hby d1_29) hr
        · show Q1 Z p1 s_PERSISTENT s_EPHEMERAL s_PERSISTENT_SEQUENTIAL s_EPHEMERAL_SEQUENTIAL h0 n0 _ T11.heap _
          rw [e11]
          exact ⟨(by rw [show (own_f1 p1 s_PERSISTENT s_EPHEMERAL s_PERSISTENT_SEQUENTIAL s_EPHEMERAL_SEQUENTIAL) = s_EPHEMERAL_SEQUENTIAL from by unfold own_f1; rw [if_neg hc2, if_neg hc5, if_neg hc8]]), N0, rfl⟩
def own_f2 (w2 : Int32) : Int32 := (if (w2 &&& (1 : Int32)) = (0 : Int32) then (0 : Int32) else (1 : Int32))
theorem d2_0 : decode prog_46_method_5_code 0 = .ok (.aload_n 0, 1) := by decide +kernel
theorem d2_1 : decode prog_46_method_5_code 1 = .ok (.getfield 35, 3) := by decide +kernel
theorem d2_4 : decode prog_46_method_5_code 4 = .ok (.iconst 1, 1) := by decide +kernel
theorem d2_5 : decode prog_46_method_5_code 5 = .ok (.iand, 1) := by decide +kernel
theorem d2_6 : decode prog_46_method_5_code 6 = .ok (.ifCond .eq 7, 3) := by decide +kernel
theorem d2_9 : decode prog_46_method_5_code 9 = .ok (.iconst 1, 1) := by decide +kernel
theorem d2_10 : decode prog_46_method_5_code 10 = .ok (.goto 4, 3) := by decide +kernel
theorem d2_13 : decode prog_46_method_5_code 13 = .ok (.iconst 0, 1) := by decide +kernel
theorem d2_14 : decode prog_46_method_5_code 14 = .ok (.ireturn, 1) := by decide +kernel
theorem pn_2 : plainName "com/example/coordination_tree/coordinationtree/protocol/NodeKind" = true := by first | (simp [plainName, overriddenIn]; done) | decide +kernel
theorem ef_2 (m : MethodId) (x0 : Addr) : entryFrame m #[(.ref x0)] 1 = mkF m 0 #[.val (.ref x0)] [] := by first | (simp [entryFrame, mkF, argsToLocals, Value.category]; done) | rfl
def Q2 (Z : State) (a1 : Addr) (w2 : Int32) (h0 : Heap) (n0 : Nat) (v : Option Value) (h : Heap) (L : List Loc) : Prop := v = some (.int (own_f2 w2)) ∧ Fr n0 L ∧ h = h0
set_option maxRecDepth 65536 in
set_option maxHeartbeats 40000000 in
theorem rm2 (l : Launch) (Z : State) (a0 : Array Value) (hw : ∀ d ∈ tables_1, d.before a0 Z = true) (ws : List Jvm.Cond) (a1 : Addr) (w2 : Int32) (h0 : Heap) (n0 : Nat) (Z0 : n0 ≤ h0.size) (F_flags_a1 : Fld Z h0 a1 "com/example/coordination_tree/coordinationtree/protocol/NodeKind" "flags" "I" (.int w2)) :
    MetFree l (⟨"com/example/coordination_tree/coordinationtree/protocol/NodeKind", "ephemeral", "()Z"⟩ : MethodName) (head1 (Jvm.Cond.code (⟨"com/example/coordination_tree/coordinationtree/protocol/NodeKind", "ephemeral", "()Z"⟩ : MethodName) prog_46_method_5_code 1 (some .boolean) :: ws) ({ frames := 0, cells := 0, slots := 0, locals := 0 } : Room)) (fun a U => a = #[(.ref a1)] ∧ Z.Warmed39 U.vm ∧ U.heap = h0) (fun _ _ _ _ _ => True) (fun _ U o U' => ∃ v L, o = .returned v ∧ Q2 Z a1 w2 h0 n0 v U'.heap L ∧ FrameEnd U o U' L ({ frames := 0, cells := 0, slots := 0, locals := 0 } : Room).cells ({ frames := 0, cells := 0, slots := 0, locals := 0 } : Room).slots) := by
  refine MetFree.of_bodySF (plainFor_of_name pn_2) hisR ?_
  intro p e s m args below meth c s₁ Bd hml0 hP hK
  obtain ⟨rfl, hZ, hh⟩ := hP
  have hx := Bd.exec
  have hby := Bd.bytes
  have hml : c.maxLocals = 1 := hml0
  have hown : s.vm.findClass "com/example/coordination_tree/coordinationtree/protocol/NodeKind" = some m.cls := findClass_of_methodNamed Bd.named
  have hnm := (name_of_methodNamed Bd.named Bd.method).1
  have X0 : Stand p l e ({ frames := 0, cells := 0, slots := 0, locals := 0 } : Room) s m #[(.ref a1)] below meth c s₁ [] 0 0 := Stand.of_body Bd
  have e0 : s₁.heap = h0 := by rw [← hh, Bd.state]; rfl
  have N0 := Fr.nil n0
  have pre0 : ∀ t, Steps p.tables e below (s₁.setTop (mkF m 0 #[.val (.ref a1)] [])) t → Steps p.tables e below (s₁.setTop (entryFrame m #[(.ref a1)] 1)) t := fun t k => castTop (ef_2 m a1) k
  obtain ⟨T3, X3, e3, st3⟩ := getF X0 hx hZ hown (host := "") (Or.inl (hw _ (List.mem_of_getElem? (i := 16) rfl))) Via.refl e0 F_flags_a1 (g := (mkF m 1 #[.val (.ref a1)] [(.ref a1)])) rfl rfl (hb hby d2_1)
  have pr5 : ∀ t, Steps p.tables e below (T3.setTop (mkF m 6 #[.val (.ref a1)] [(.int (w2 &&& (1 : Int32)))])) t → Steps p.tables e below (s₁.setTop (entryFrame m #[(.ref a1)] 1)) t := by
    intro t k
    refine pre0 t ?_
    show Steps p.tables e below (s₁.setTop (mkF m 0 #[.val (.ref a1)] [])) _
    refine XS.aloadN X0.here hx rfl (hb hby d2_0) rfl rfl ?_
    show Steps p.tables e below (s₁.setTop (mkF m 1 #[.val (.ref a1)] [(.ref a1)])) _
    refine st3 _ ?_
    show Steps p.tables e below (T3.setTop (mkF m 4 #[.val (.ref a1)] [(.int w2)])) _
    refine XS.iconst X3.here hx rfl (hb hby d2_4) ?_
    show Steps p.tables e below (T3.setTop (mkF m 5 #[.val (.ref a1)] [(.int (1 : Int32)), (.int w2)])) _
    refine XS.iand X3.here hx rfl (hb hby d2_5) rfl ?_
    show Steps p.tables e below (T3.setTop (mkF m 6 #[.val (.ref a1)] [(.int (w2 &&& (1 : Int32)))])) _
    exact k
  by_cases hc4 : (w2 &&& (1 : Int32)) = (0 : Int32)
  · obtain ⟨fs, hr, hrun, hended, hW, hsame⟩ := X3.leave (v := some (.int (0 : Int32))) (fun h => by rw [Bd.returns] at h; cases h)
    refine ⟨_, _, pr5 _ ?_, hrun, hended, _, _, rfl, ?_, ⟨_, rfl⟩, hW, hsame.mono (by decide) (by decide)⟩
    · show Steps p.tables e below (T3.setTop (mkF m 6 #[.val (.ref a1)] [(.int (w2 &&& (1 : Int32)))])) _
      refine XS.ifYes X3.here hx rfl (pc0 := 6) (pc' := 13) rfl (hb hby d2_6) rfl ((if0 _ _).trans (teq hc4).1) (by decide) (by decide) ?_
      show Steps p.tables e below (T3.setTop (mkF m 13 #[.val (.ref a1)] [])) _
      refine XS.iconst X3.here hx rfl (hb hby d2_13) ?_
      show Steps p.tables e below (T3.setTop (mkF m 14 #[.val (.ref a1)] [(.int (0 : Int32))])) _
      exact retN X3 hx (t := .boolean) Bd.returns (by simp) (hb hby d2_14) hr
    · show Q2 Z a1 w2 h0 n0 _ T3.heap _
      rw [e3]
      exact ⟨(by rw [show (own_f2 w2) = (0 : Int32) from by unfold own_f2; rw [if_pos hc4]]), N0, rfl⟩
  · obtain ⟨fs, hr, hrun, hended, hW, hsame⟩ := X3.leave (v := some (.int (1 : Int32))) (fun h => by rw [Bd.returns] at h; cases h)
    refine ⟨_, _, pr5 _ ?_, hrun, hended, _, _, rfl, ?_, ⟨_, rfl⟩, hW, hsame.mono (by decide) (by decide)⟩
    · show Steps p.tables e below (T3.setTop (mkF m 6 #[.val (.ref a1)] [(.int (w2 &&& (1 : Int32)))])) _
      refine XS.ifNo X3.here hx rfl (hb hby d2_6) rfl ((if0 _ _).trans (feq hc4).1) ?_
      show Steps p.tables e below (T3.setTop (mkF m 9 #[.val (.ref a1)] [])) _
      refine XS.iconst X3.here hx rfl (hb hby d2_9) ?_
      show Steps p.tables e below (T3.setTop (mkF m 10 #[.val (.ref a1)] [(.int (1 : Int32))])) _
      refine XS.goto X3.here hx rfl (pc0 := 10) (pc' := 14) rfl (hb hby d2_10) (by decide) (by decide) ?_
      show Steps p.tables e below (T3.setTop (mkF m 14 #[.val (.ref a1)] [(.int (1 : Int32))])) _
      exact retN X3 hx (t := .boolean) Bd.returns (by simp) (hb hby d2_14) hr
    · show Q2 Z a1 w2 h0 n0 _ T3.heap _
      rw [e3]
      exact ⟨(by rw [show (own_f2 w2) = (1 : Int32) from by unfold own_f2; rw [if_neg hc4]]), N0, rfl⟩
theorem pn_0 : plainName "com/example/coordination_tree/coordinationtree/protocol/NodeKindEphemeralPinLaw" = true := by first | (simp [plainName, overriddenIn]; done) | decide +kernel
theorem pd_0_0 : parseMethodDescriptor "(I)Lcom/example/coordination_tree/coordinationtree/protocol/NodeKind;" = some ⟨[.int], some (.object "com/example/coordination_tree/coordinationtree/protocol/NodeKind")⟩ := by decide +kernel
theorem pd_0_1 : parseMethodDescriptor "()Z" = some ⟨[], some .boolean⟩ := by decide +kernel
theorem ef_0 (m : MethodId) (x0 : Int32) : entryFrame m #[(.int x0)] maxLocals = mkF m 0 #[.val (.int x0), .unset, .unset] [] := by first | (simp [entryFrame, mkF, argsToLocals, Value.category, maxLocals]; done) | rfl
def Q0 (Z : State) (p1 : Int32) (s_PERSISTENT : Addr) (s_EPHEMERAL : Addr) (s_PERSISTENT_SEQUENTIAL : Addr) (s_EPHEMERAL_SEQUENTIAL : Addr) (w7 : Int32) (h0 : Heap) (n0 : Nat) (v : Option Value) (h : Heap) (L : List Loc) : Prop := v = some (.int (1 : Int32)) ∧ Fr n0 L
set_option maxRecDepth 65536 in
set_option maxHeartbeats 40000000 in
theorem rm0 (l : Launch) (Z : State) (a0 : Array Value) (hw : ∀ d ∈ tables_1, d.before a0 Z = true) (ws : List Jvm.Cond) (p1 : Int32) (s_PERSISTENT : Addr) (s_EPHEMERAL : Addr) (s_PERSISTENT_SEQUENTIAL : Addr) (s_EPHEMERAL_SEQUENTIAL : Addr) (w7 : Int32) (h0 : Heap) (n0 : Nat) (Z0 : n0 ≤ h0.size) (S_PERSISTENT : Sta Z h0 "com/example/coordination_tree/coordinationtree/protocol/NodeKind" "PERSISTENT" "Lcom/example/coordination_tree/coordinationtree/protocol/NodeKind;" (.ref s_PERSISTENT)) (S_EPHEMERAL : Sta Z h0 "com/example/coordination_tree/coordinationtree/protocol/NodeKind" "EPHEMERAL" "Lcom/example/coordination_tree/coordinationtree/protocol/NodeKind;" (.ref s_EPHEMERAL)) (S_PERSISTENT_SEQUENTIAL : Sta Z h0 "com/example/coordination_tree/coordinationtree/protocol/NodeKind" "PERSISTENT_SEQUENTIAL" "Lcom/example/coordination_tree/coordinationtree/protocol/NodeKind;" (.ref s_PERSISTENT_SEQUENTIAL)) (S_EPHEMERAL_SEQUENTIAL : Sta Z h0 "com/example/coordination_tree/coordinationtree/protocol/NodeKind" "EPHEMERAL_SEQUENTIAL" "Lcom/example/coordination_tree/coordinationtree/protocol/NodeKind;" (.ref s_EPHEMERAL_SEQUENTIAL)) (E_o1 : Exa Z h0 (own_f1 (p1 &&& (3 : Int32)) s_PERSISTENT s_EPHEMERAL s_PERSISTENT_SEQUENTIAL s_EPHEMERAL_SEQUENTIAL) "com/example/coordination_tree/coordinationtree/protocol/NodeKind") (F_flags_o1 : Fld Z h0 (own_f1 (p1 &&& (3 : Int32)) s_PERSISTENT s_EPHEMERAL s_PERSISTENT_SEQUENTIAL s_EPHEMERAL_SEQUENTIAL) "com/example/coordination_tree/coordinationtree/protocol/NodeKind" "flags" "I" (.int w7)) (hq32_1 : ((own_f1 (p1 &&& (3 : Int32)) s_PERSISTENT s_EPHEMERAL s_PERSISTENT_SEQUENTIAL s_EPHEMERAL_SEQUENTIAL) = s_EPHEMERAL) → (own_f2 w7) = (1 : Int32)) (hq32_2 : (¬ ((own_f1 (p1 &&& (3 : Int32)) s_PERSISTENT s_EPHEMERAL s_PERSISTENT_SEQUENTIAL s_EPHEMERAL_SEQUENTIAL) = s_EPHEMERAL)) → ((own_f1 (p1 &&& (3 : Int32)) s_PERSISTENT s_EPHEMERAL s_PERSISTENT_SEQUENTIAL s_EPHEMERAL_SEQUENTIAL) = s_EPHEMERAL_SEQUENTIAL) → (own_f2 w7) = (1 : Int32)) (hq32_3 : (¬ ((own_f1 (p1 &&& (3 : Int32)) s_PERSISTENT s_EPHEMERAL s_PERSISTENT_SEQUENTIAL s_EPHEMERAL_SEQUENTIAL) = s_EPHEMERAL)) → (¬ ((own_f1 (p1 &&& (3 : Int32)) s_PERSISTENT s_EPHEMERAL s_PERSISTENT_SEQUENTIAL s_EPHEMERAL_SEQUENTIAL) = s_EPHEMERAL_SEQUENTIAL)) → (own_f2 w7) = (0 : Int32)) :
    MetFree l x (head1 (Jvm.Cond.code x code maxLocals ret :: ws) room_1) (fun a U => a = #[(.int p1)] ∧ Z.Warmed39 U.vm ∧ U.heap = h0) (fun _ _ _ _ _ => True) (fun _ U o U' => ∃ v L, o = .returned v ∧ Q0 Z p1 s_PERSISTENT s_EPHEMERAL s_PERSISTENT_SEQUENTIAL s_EPHEMERAL_SEQUENTIAL w7 h0 n0 v U'.heap L ∧ FrameEnd U o U' L room_1.cells room_1.slots) := by
  refine MetFree.of_bodySF (plainFor_of_name pn_0) hisR ?_
  intro p e s m args below meth c s₁ Bd hml0 hP hK
  obtain ⟨rfl, hZ, hh⟩ := hP
  have hx := Bd.exec
  have hby := Bd.bytes
  have hml : c.maxLocals = 3 := hml0
  have hown : s.vm.findClass "com/example/coordination_tree/coordinationtree/protocol/NodeKindEphemeralPinLaw" = some m.cls := findClass_of_methodNamed Bd.named
  have hnm := (name_of_methodNamed Bd.named Bd.method).1
  have X0 : Stand p l e room_1 s m #[(.int p1)] below meth c s₁ [] 0 0 := Stand.of_body Bd
  have e0 : s₁.heap = h0 := by rw [← hh, Bd.state]; rfl
  have N0 := Fr.nil n0
  have pre0 : ∀ t, Steps p.tables e below (s₁.setTop (mkF m 0 #[.val (.int p1), .unset, .unset] [])) t → Steps p.tables e below (s₁.setTop (entryFrame m #[(.int p1)] maxLocals)) t := fun t k => castTop (ef_0 m p1) k
  obtain ⟨_, _, ⟨T2, L2, k2, n2⟩, -, X2, ⟨Lc2, hQ2, l2, y2, z2⟩, st2⟩ := Jvm.LawKit.callS X0 hx (y := (⟨"com/example/coordination_tree/coordinationtree/protocol/NodeKindEphemeralPinLaw", "pick", "(I)Lcom/example/coordination_tree/coordinationtree/protocol/NodeKind;"⟩ : MethodName)) hown (mvT hZ (hw _ (List.mem_of_getElem? (i := 0) rfl))) (mvT hZ (hw _ (List.mem_of_getElem? (i := 1) rfl))) (mvT hZ (hw _ (List.mem_of_getElem? (i := 2) rfl))) (mvT hZ (hw _ (List.mem_of_getElem? (i := 3) rfl))) (by decide) (backOf (W := 0) (rm1 l Z a0 hw [] (p1 &&& (3 : Int32)) s_PERSISTENT s_EPHEMERAL s_PERSISTENT_SEQUENTIAL s_EPHEMERAL_SEQUENTIAL h0 n0 Z0 S_PERSISTENT S_EPHEMERAL S_PERSISTENT_SEQUENTIAL S_EPHEMERAL_SEQUENTIAL) hZ (hw _ (List.mem_of_getElem? (i := 3) rfl)) (hw _ (List.mem_of_getElem? (i := 2) rfl)) (by decide) (by decide)) (g := (mkF m 3 #[.val (.int p1), .unset, .unset] [(.int (p1 &&& (3 : Int32)))])) rfl (by rw [hml]; rfl) (argsL := [(.int (p1 &&& (3 : Int32)))]) (rest := []) (lenOf pd_0_0 rfl) rfl (by show 2 * 0 + _ ≤ _; exact Nat.le_of_eq rfl) (hb hby at_3) (fun _ _ => ⟨rfl, e0, (by decide : 0 + 0 ≤ _), (by decide : 0 + 0 ≤ _)⟩)
  dsimp only [Pt.U, Pt.locs, Pt.cells, Pt.slots] at X2 l2 y2 z2 st2 hQ2
  subst l2 y2 z2
  obtain ⟨rfl, N2q, e2⟩ := hQ2
  have N2 := Fr.app N0 N2q
  obtain ⟨T3, X3, e3, st3⟩ := getS2 X2 hx hZ hown (host := "") (Or.inl (hw _ (List.mem_of_getElem? (i := 7) rfl))) Via.refl e2 S_EPHEMERAL (g := (mkF m 8 #[.val (.int p1), .val (.ref (own_f1 (p1 &&& (3 : Int32)) s_PERSISTENT s_EPHEMERAL s_PERSISTENT_SEQUENTIAL s_EPHEMERAL_SEQUENTIAL)), .unset] [(.ref (own_f1 (p1 &&& (3 : Int32)) s_PERSISTENT s_EPHEMERAL s_PERSISTENT_SEQUENTIAL s_EPHEMERAL_SEQUENTIAL))])) rfl (hb hby at_8)
  have pr5 : ∀ t, Steps p.tables e below (T3.setTop (mkF m 11 #[.val (.int p1), .val (.ref (own_f1 (p1 &&& (3 : Int32)) s_PERSISTENT s_EPHEMERAL s_PERSISTENT_SEQUENTIAL s_EPHEMERAL_SEQUENTIAL)), .unset] [(.ref s_EPHEMERAL), (.ref (own_f1 (p1 &&& (3 : Int32)) s_PERSISTENT s_EPHEMERAL s_PERSISTENT_SEQUENTIAL s_EPHEMERAL_SEQUENTIAL))])) t → Steps p.tables e below (s₁.setTop (entryFrame m #[(.int p1)] maxLocals)) t := by
    intro t k
    refine pre0 t ?_
    show Steps p.tables e below (s₁.setTop (mkF m 0 #[.val (.int p1), .unset, .unset] [])) _
    refine XS.iloadN X0.here hx rfl (hb hby at_0) rfl ?_
    show Steps p.tables e below (s₁.setTop (mkF m 1 #[.val (.int p1), .unset, .unset] [(.int p1)])) _
    refine XS.iconst X0.here hx rfl (hb hby at_1) ?_
    show Steps p.tables e below (s₁.setTop (mkF m 2 #[.val (.int p1), .unset, .unset] [(.int (3 : Int32)), (.int p1)])) _
    refine XS.iand X0.here hx rfl (hb hby at_2) rfl ?_
    show Steps p.tables e below (s₁.setTop (mkF m 3 #[.val (.int p1), .unset, .unset] [(.int (p1 &&& (3 : Int32)))])) _
    refine st2 _ ?_
    show Steps p.tables e below (T2.setTop (mkF m 6 #[.val (.int p1), .unset, .unset] [(.ref (own_f1 (p1 &&& (3 : Int32)) s_PERSISTENT s_EPHEMERAL s_PERSISTENT_SEQUENTIAL s_EPHEMERAL_SEQUENTIAL))])) _
    refine XS.astoreN X2.here hx rfl (hb hby at_6) rfl rfl (l' := #[.val (.int p1), .val (.ref (own_f1 (p1 &&& (3 : Int32)) s_PERSISTENT s_EPHEMERAL s_PERSISTENT_SEQUENTIAL s_EPHEMERAL_SEQUENTIAL)), .unset]) rfl ?_
    show Steps p.tables e below (T2.setTop (mkF m 7 #[.val (.int p1), .val (.ref (own_f1 (p1 &&& (3 : Int32)) s_PERSISTENT s_EPHEMERAL s_PERSISTENT_SEQUENTIAL s_EPHEMERAL_SEQUENTIAL)), .unset] [])) _
    refine XS.aloadN X2.here hx rfl (hb hby at_7) rfl rfl ?_
    show Steps p.tables e below (T2.setTop (mkF m 8 #[.val (.int p1), .val (.ref (own_f1 (p1 &&& (3 : Int32)) s_PERSISTENT s_EPHEMERAL s_PERSISTENT_SEQUENTIAL s_EPHEMERAL_SEQUENTIAL)), .unset] [(.ref (own_f1 (p1 &&& (3 : Int32)) s_PERSISTENT s_EPHEMERAL s_PERSISTENT_SEQUENTIAL s_EPHEMERAL_SEQUENTIAL))])) _
    refine st3 _ ?_
    show Steps p.tables e below (T3.setTop (mkF m 11 #[.val (.int p1), .val (.ref (own_f1 (p1 &&& (3 : Int32)) s_PERSISTENT s_EPHEMERAL s_PERSISTENT_SEQUENTIAL s_EPHEMERAL_SEQUENTIAL)), .unset] [(.ref s_EPHEMERAL), (.ref (own_f1 (p1 &&& (3 : Int32)) s_PERSISTENT s_EPHEMERAL s_PERSISTENT_SEQUENTIAL s_EPHEMERAL_SEQUENTIAL))])) _
    exact k
  by_cases hc4 : (own_f1 (p1 &&& (3 : Int32)) s_PERSISTENT s_EPHEMERAL s_PERSISTENT_SEQUENTIAL s_EPHEMERAL_SEQUENTIAL) = s_EPHEMERAL
  · obtain ⟨cq6, kq6, q6a, q6b, q6c⟩ := isOf hZ e3 E_o1
    obtain ⟨_, _, ⟨T6, L6, k6, n6⟩, -, X6, ⟨Lc6, hQ6, l6, y6, z6⟩, st6⟩ := X3.virtualBack hx (y := (⟨"com/example/coordination_tree/coordinationtree/protocol/NodeKind", "ephemeral", "()Z"⟩ : MethodName)) (z := (⟨"com/example/coordination_tree/coordinationtree/protocol/NodeKind", "ephemeral", "()Z"⟩ : MethodName)) hown (mvT hZ (hw _ (List.mem_of_getElem? (i := 11) rfl))) (mvT hZ (hw _ (List.mem_of_getElem? (i := 12) rfl))) (notFace_of_selects (args := #[]) (mvT hZ (hw _ (List.mem_of_getElem? (i := 14) rfl)))) (mvT hZ (hw _ (List.mem_of_getElem? (i := 14) rfl))) (mvT hZ (hw _ (List.mem_of_getElem? (i := 13) rfl))) (by decide) (backOf (W := 0) (rm2 l Z a0 hw [] (own_f1 (p1 &&& (3 : Int32)) s_PERSISTENT s_EPHEMERAL s_PERSISTENT_SEQUENTIAL s_EPHEMERAL_SEQUENTIAL) w7 h0 n0 Z0 F_flags_o1) hZ (hw _ (List.mem_of_getElem? (i := 15) rfl)) (hw _ (List.mem_of_getElem? (i := 5) rfl)) (by decide) (by decide)) q6a q6c (g := (mkF m 28 #[.val (.int p1), .val (.ref (own_f1 (p1 &&& (3 : Int32)) s_PERSISTENT s_EPHEMERAL s_PERSISTENT_SEQUENTIAL s_EPHEMERAL_SEQUENTIAL)), .val (.int (1 : Int32))] [(.ref (own_f1 (p1 &&& (3 : Int32)) s_PERSISTENT s_EPHEMERAL s_PERSISTENT_SEQUENTIAL s_EPHEMERAL_SEQUENTIAL))])) rfl (by rw [hml]; rfl) (Steps.refl _) (argsL := []) (rest := []) (lenOf pd_0_1 rfl) rfl (by show 2 * 0 + _ ≤ _; exact Nat.le_of_eq rfl) (hb hby at_28) (fun _ _ => ⟨rfl, e3, (by decide : 0 + 0 ≤ _), (by decide : 0 + 0 ≤ _)⟩)
    dsimp only [Pt.U, Pt.locs, Pt.cells, Pt.slots] at X6 l6 y6 z6 st6 hQ6
    subst l6 y6 z6
    obtain ⟨rfl, N6q, e6⟩ := hQ6
    have N6 := Fr.app N2 N6q
    obtain ⟨fs, hr, hrun, hended, hW, hsame⟩ := X6.leave (v := some (.int (1 : Int32))) (fun h => by rw [Bd.returns] at h; cases h)
    refine ⟨_, _, pr5 _ ?_, hrun, hended, _, _, rfl, ?_, ⟨_, rfl⟩, hW, hsame.mono (by decide) (by decide)⟩
    · show Steps p.tables e below (T3.setTop (mkF m 11 #[.val (.int p1), .val (.ref (own_f1 (p1 &&& (3 : Int32)) s_PERSISTENT s_EPHEMERAL s_PERSISTENT_SEQUENTIAL s_EPHEMERAL_SEQUENTIAL)), .unset] [(.ref s_EPHEMERAL), (.ref (own_f1 (p1 &&& (3 : Int32)) s_PERSISTENT s_EPHEMERAL s_PERSISTENT_SEQUENTIAL s_EPHEMERAL_SEQUENTIAL))])) _
      refine Jvm.RoadKit.acmp (g := (mkF m 11 #[.val (.int p1), .val (.ref (own_f1 (p1 &&& (3 : Int32)) s_PERSISTENT s_EPHEMERAL s_PERSISTENT_SEQUENTIAL s_EPHEMERAL_SEQUENTIAL)), .unset] [(.ref s_EPHEMERAL), (.ref (own_f1 (p1 &&& (3 : Int32)) s_PERSISTENT s_EPHEMERAL s_PERSISTENT_SEQUENTIAL s_EPHEMERAL_SEQUENTIAL))])) X3 hx rfl rfl rfl (pc0 := 11) (pc' := 21) (same := true) rfl (hb hby at_11) rfl (decide_eq_true (congrArg Value.ref hc4)) (by decide) (by decide) ?_
      show Steps p.tables e below (T3.setTop (mkF m 21 #[.val (.int p1), .val (.ref (own_f1 (p1 &&& (3 : Int32)) s_PERSISTENT s_EPHEMERAL s_PERSISTENT_SEQUENTIAL s_EPHEMERAL_SEQUENTIAL)), .unset] [])) _
      refine XS.iconst X3.here hx rfl (hb hby at_21) ?_
      show Steps p.tables e below (T3.setTop (mkF m 22 #[.val (.int p1), .val (.ref (own_f1 (p1 &&& (3 : Int32)) s_PERSISTENT s_EPHEMERAL s_PERSISTENT_SEQUENTIAL s_EPHEMERAL_SEQUENTIAL)), .unset] [(.int (1 : Int32))])) _
      refine XS.goto X3.here hx rfl (pc0 := 22) (pc' := 26) rfl (hb hby at_22) (by decide) (by decide) ?_
      show Steps p.tables e below (T3.setTop (mkF m 26 #[.val (.int p1), .val (.ref (own_f1 (p1 &&& (3 : Int32)) s_PERSISTENT s_EPHEMERAL s_PERSISTENT_SEQUENTIAL s_EPHEMERAL_SEQUENTIAL)), .unset] [(.int (1 : Int32))])) _
      refine XS.istoreN X3.here hx rfl (hb hby at_26) rfl (l' := #[.val (.int p1), .val (.ref (own_f1 (p1 &&& (3 : Int32)) s_PERSISTENT s_EPHEMERAL s_PERSISTENT_SEQUENTIAL s_EPHEMERAL_SEQUENTIAL)), .val (.int (1 : Int32))]) rfl ?_
      show Steps p.tables e below (T3.setTop (mkF m 27 #[.val (.int p1), .val (.ref (own_f1 (p1 &&& (3 : Int32)) s_PERSISTENT s_EPHEMERAL s_PERSISTENT_SEQUENTIAL s_EPHEMERAL_SEQUENTIAL)), .val (.int (1 : Int32))] [])) _
      refine XS.aloadN X3.here hx rfl (hb hby at_27) rfl rfl ?_
      show Steps p.tables e below (T3.setTop (mkF m 28 #[.val (.int p1), .val (.ref (own_f1 (p1 &&& (3 : Int32)) s_PERSISTENT s_EPHEMERAL s_PERSISTENT_SEQUENTIAL s_EPHEMERAL_SEQUENTIAL)), .val (.int (1 : Int32))] [(.ref (own_f1 (p1 &&& (3 : Int32)) s_PERSISTENT s_EPHEMERAL s_PERSISTENT_SEQUENTIAL s_EPHEMERAL_SEQUENTIAL))])) _
      refine st6.trans ?_
      show Steps p.tables e below (T6.setTop (mkF m 31 #[.val (.int p1), .val (.ref (own_f1 (p1 &&& (3 : Int32)) s_PERSISTENT s_EPHEMERAL s_PERSISTENT_SEQUENTIAL s_EPHEMERAL_SEQUENTIAL)), .val (.int (1 : Int32))] [(.int (own_f2 w7))])) _
      refine XS.iloadN X6.here hx rfl (hb hby at_31) rfl ?_
      show Steps p.tables e below (T6.setTop (mkF m 32 #[.val (.int p1), .val (.ref (own_f1 (p1 &&& (3 : Int32)) s_PERSISTENT s_EPHEMERAL s_PERSISTENT_SEQUENTIAL s_EPHEMERAL_SEQUENTIAL)), .val (.int (1 : Int32))] [(.int (1 : Int32)), (.int (own_f2 w7))])) _
      refine XS.icmpNo X6.here hx rfl (hb hby at_32) rfl (teq (hq32_1 hc4)).2 ?_
      show Steps p.tables e below (T6.setTop (mkF m 35 #[.val (.int p1), .val (.ref (own_f1 (p1 &&& (3 : Int32)) s_PERSISTENT s_EPHEMERAL s_PERSISTENT_SEQUENTIAL s_EPHEMERAL_SEQUENTIAL)), .val (.int (1 : Int32))] [])) _
      refine XS.iconst X6.here hx rfl (hb hby at_35) ?_
      show Steps p.tables e below (T6.setTop (mkF m 36 #[.val (.int p1), .val (.ref (own_f1 (p1 &&& (3 : Int32)) s_PERSISTENT s_EPHEMERAL s_PERSISTENT_SEQUENTIAL s_EPHEMERAL_SEQUENTIAL)), .val (.int (1 : Int32))] [(.int (1 : Int32))])) _
      refine XS.goto X6.here hx rfl (pc0 := 36) (pc' := 40) rfl (hb hby at_36) (by decide) (by decide) ?_
      show Steps p.tables e below (T6.setTop (mkF m 40 #[.val (.int p1), .val (.ref (own_f1 (p1 &&& (3 : Int32)) s_PERSISTENT s_EPHEMERAL s_PERSISTENT_SEQUENTIAL s_EPHEMERAL_SEQUENTIAL)), .val (.int (1 : Int32))] [(.int (1 : Int32))])) _
      exact retN X6 hx (t := .boolean) Bd.returns (by simp) (hb hby at_40) hr
    · show Q0 Z p1 s_PERSISTENT s_EPHEMERAL s_PERSISTENT_SEQUENTIAL s_EPHEMERAL_SEQUENTIAL w7 h0 n0 _ T6.heap _
      rw [e6]
      exact ⟨rfl, N6⟩
  · obtain ⟨T8, X8, e8, st8⟩ := getS2 X3 hx hZ hown (host := "") (Or.inl (hw _ (List.mem_of_getElem? (i := 9) rfl))) Via.refl e3 S_EPHEMERAL_SEQUENTIAL (g := (mkF m 15 #[.val (.int p1), .val (.ref (own_f1 (p1 &&& (3 : Int32)) s_PERSISTENT s_EPHEMERAL s_PERSISTENT_SEQUENTIAL s_EPHEMERAL_SEQUENTIAL)), .unset] [(.ref (own_f1 (p1 &&& (3 : Int32)) s_PERSISTENT s_EPHEMERAL s_PERSISTENT_SEQUENTIAL s_EPHEMERAL_SEQUENTIAL))])) rfl (hb hby at_15)
    have pr10 : ∀ t, Steps p.tables e below (T8.setTop (mkF m 18 #[.val (.int p1), .val (.ref (own_f1 (p1 &&& (3 : Int32)) s_PERSISTENT s_EPHEMERAL s_PERSISTENT_SEQUENTIAL s_EPHEMERAL_SEQUENTIAL)), .unset] [(.ref s_EPHEMERAL_SEQUENTIAL), (.ref (own_f1 (p1 &&& (3 : Int32)) s_PERSISTENT s_EPHEMERAL s_PERSISTENT_SEQUENTIAL s_EPHEMERAL_SEQUENTIAL))])) t → Steps p.tables e below (s₁.setTop (entryFrame m #[(.int p1)] maxLocals)) t := by
      intro t k
      refine pr5 t ?_
      show Steps p.tables e below (T3.setTop (mkF m 11 #[.val (.int p1), .val (.ref (own_f1 (p1 &&& (3 : Int32)) s_PERSISTENT s_EPHEMERAL s_PERSISTENT_SEQUENTIAL s_EPHEMERAL_SEQUENTIAL)), .unset] [(.ref s_EPHEMERAL), (.ref (own_f1 (p1 &&& (3 : Int32)) s_PERSISTENT s_EPHEMERAL s_PERSISTENT_SEQUENTIAL s_EPHEMERAL_SEQUENTIAL))])) _
      refine Jvm.RoadKit.acmp (g := (mkF m 11 #[.val (.int p1), .val (.ref (own_f1 (p1 &&& (3 : Int32)) s_PERSISTENT s_EPHEMERAL s_PERSISTENT_SEQUENTIAL s_EPHEMERAL_SEQUENTIAL)), .unset] [(.ref s_EPHEMERAL), (.ref (own_f1 (p1 &&& (3 : Int32)) s_PERSISTENT s_EPHEMERAL s_PERSISTENT_SEQUENTIAL s_EPHEMERAL_SEQUENTIAL))])) X3 hx rfl rfl rfl (pc0 := 11) (pc' := 14) (same := false) rfl (hb hby at_11) rfl (decide_eq_false fun q => hc4 (Value.ref.inj q)) (by decide) (by decide) ?_
      show Steps p.tables e below (T3.setTop (mkF m 14 #[.val (.int p1), .val (.ref (own_f1 (p1 &&& (3 : Int32)) s_PERSISTENT s_EPHEMERAL s_PERSISTENT_SEQUENTIAL s_EPHEMERAL_SEQUENTIAL)), .unset] [])) _
      refine XS.aloadN X3.here hx rfl (hb hby at_14) rfl rfl ?_
      show Steps p.tables e below (T3.setTop (mkF m 15 #[.val (.int p1), .val (.ref (own_f1 (p1 &&& (3 : Int32)) s_PERSISTENT s_EPHEMERAL s_PERSISTENT_SEQUENTIAL s_EPHEMERAL_SEQUENTIAL)), .unset] [(.ref (own_f1 (p1 &&& (3 : Int32)) s_PERSISTENT s_EPHEMERAL s_PERSISTENT_SEQUENTIAL s_EPHEMERAL_SEQUENTIAL))])) _
      refine st8 _ ?_
      show Steps p.tables e below (T8.setTop (mkF m 18 #[.val (.int p1), .val (.ref (own_f1 (p1 &&& (3 : Int32)) s_PERSISTENT s_EPHEMERAL s_PERSISTENT_SEQUENTIAL s_EPHEMERAL_SEQUENTIAL)), .unset] [(.ref s_EPHEMERAL_SEQUENTIAL), (.ref (own_f1 (p1 &&& (3 : Int32)) s_PERSISTENT s_EPHEMERAL s_PERSISTENT_SEQUENTIAL s_EPHEMERAL_SEQUENTIAL))])) _
      exact k
    by_cases hc9 : (own_f1 (p1 &&& (3 : Int32)) s_PERSISTENT s_EPHEMERAL s_PERSISTENT_SEQUENTIAL s_EPHEMERAL_SEQUENTIAL) = s_EPHEMERAL_SEQUENTIAL
    · obtain ⟨cq11, kq11, q11a, q11b, q11c⟩ := isOf hZ e8 E_o1
      obtain ⟨_, _, ⟨T11, L11, k11, n11⟩, -, X11, ⟨Lc11, hQ11, l11, y11, z11⟩, st11⟩ := X8.virtualBack hx (y := (⟨"com/example/coordination_tree/coordinationtree/protocol/NodeKind", "ephemeral", "()Z"⟩ : MethodName)) (z := (⟨"com/example/coordination_tree/coordinationtree/protocol/NodeKind", "ephemeral", "()Z"⟩ : MethodName)) hown (mvT hZ (hw _ (List.mem_of_getElem? (i := 11) rfl))) (mvT hZ (hw _ (List.mem_of_getElem? (i := 12) rfl))) (notFace_of_selects (args := #[]) (mvT hZ (hw _ (List.mem_of_getElem? (i := 14) rfl)))) (mvT hZ (hw _ (List.mem_of_getElem? (i := 14) rfl))) (mvT hZ (hw _ (List.mem_of_getElem? (i := 13) rfl))) (by decide) (backOf (W := 0) (rm2 l Z a0 hw [] (own_f1 (p1 &&& (3 : Int32)) s_PERSISTENT s_EPHEMERAL s_PERSISTENT_SEQUENTIAL s_EPHEMERAL_SEQUENTIAL) w7 h0 n0 Z0 F_flags_o1) hZ (hw _ (List.mem_of_getElem? (i := 15) rfl)) (hw _ (List.mem_of_getElem? (i := 5) rfl)) (by decide) (by decide)) q11a q11c (g := (mkF m 28 #[.val (.int p1), .val (.ref (own_f1 (p1 &&& (3 : Int32)) s_PERSISTENT s_EPHEMERAL s_PERSISTENT_SEQUENTIAL s_EPHEMERAL_SEQUENTIAL)), .val (.int (1 : Int32))] [(.ref (own_f1 (p1 &&& (3 : Int32)) s_PERSISTENT s_EPHEMERAL s_PERSISTENT_SEQUENTIAL s_EPHEMERAL_SEQUENTIAL))])) rfl (by rw [hml]; rfl) (Steps.refl _) (argsL := []) (rest := []) (lenOf pd_0_1 rfl) rfl (by show 2 * 0 + _ ≤ _; exact Nat.le_of_eq rfl) (hb hby at_28) (fun _ _ => ⟨rfl, e8, (by decide : 0 + 0 ≤ _), (by decide : 0 + 0 ≤ _)⟩)
      dsimp only [Pt.U, Pt.locs, Pt.cells, Pt.slots] at X11 l11 y11 z11 st11 hQ11
      subst l11 y11 z11
      obtain ⟨rfl, N11q, e11⟩ := hQ11
      have N11 := Fr.app N2 N11q
      obtain ⟨fs, hr, hrun, hended, hW, hsame⟩ := X11.leave (v := some (.int (1 : Int32))) (fun h => by rw [Bd.returns] at h; cases h)
      refine ⟨_, _, pr10 _ ?_, hrun, hended, _, _, rfl, ?_, ⟨_, rfl⟩, hW, hsame.mono (by decide) (by decide)⟩
      · show Steps p.tables e below (T8.setTop (mkF m 18 #[.val (.int p1), .val (.ref (own_f1 (p1 &&& (3 : Int32)) s_PERSISTENT s_EPHEMERAL s_PERSISTENT_SEQUENTIAL s_EPHEMERAL_SEQUENTIAL)), .unset] [(.ref s_EPHEMERAL_SEQUENTIAL), (.ref (own_f1 (p1 &&& (3 : Int32)) s_PERSISTENT s_EPHEMERAL s_PERSISTENT_SEQUENTIAL s_EPHEMERAL_SEQUENTIAL))])) _
        refine Jvm.RoadKit.acmp (g := (mkF m 18 #[.val (.int p1), .val (.ref (own_f1 (p1 &&& (3 : Int32)) s_PERSISTENT s_EPHEMERAL s_PERSISTENT_SEQUENTIAL s_EPHEMERAL_SEQUENTIAL)), .unset] [(.ref s_EPHEMERAL_SEQUENTIAL), (.ref (own_f1 (p1 &&& (3 : Int32)) s_PERSISTENT s_EPHEMERAL s_PERSISTENT_SEQUENTIAL s_EPHEMERAL_SEQUENTIAL))])) X8 hx rfl rfl rfl (pc0 := 18) (pc' := 21) (same := true) rfl (hb hby at_18) rfl (decide_eq_true (congrArg Value.ref hc9)) (by decide) (by decide) ?_
        show Steps p.tables e below (T8.setTop (mkF m 21 #[.val (.int p1), .val (.ref (own_f1 (p1 &&& (3 : Int32)) s_PERSISTENT s_EPHEMERAL s_PERSISTENT_SEQUENTIAL s_EPHEMERAL_SEQUENTIAL)), .unset] [])) _
        refine XS.iconst X8.here hx rfl (hb hby at_21) ?_
        show Steps p.tables e below (T8.setTop (mkF m 22 #[.val (.int p1), .val (.ref (own_f1 (p1 &&& (3 : Int32)) s_PERSISTENT s_EPHEMERAL s_PERSISTENT_SEQUENTIAL s_EPHEMERAL_SEQUENTIAL)), .unset] [(.int (1 : Int32))])) _
        refine XS.goto X8.here hx rfl (pc0 := 22) (pc' := 26) rfl (hb hby at_22) (by decide) (by decide) ?_
        show Steps p.tables e below (T8.setTop (mkF m 26 #[.val (.int p1), .val (.ref (own_f1 (p1 &&& (3 : Int32)) s_PERSISTENT s_EPHEMERAL s_PERSISTENT_SEQUENTIAL s_EPHEMERAL_SEQUENTIAL)), .unset] [(.int (1 : Int32))])) _
        refine XS.istoreN X8.here hx rfl (hb hby at_26) rfl (l' := #[.val (.int p1), .val (.ref (own_f1 (p1 &&& (3 : Int32)) s_PERSISTENT s_EPHEMERAL s_PERSISTENT_SEQUENTIAL s_EPHEMERAL_SEQUENTIAL)), .val (.int (1 : Int32))]) rfl ?_
        show Steps p.tables e below (T8.setTop (mkF m 27 #[.val (.int p1), .val (.ref (own_f1 (p1 &&& (3 : Int32)) s_PERSISTENT s_EPHEMERAL s_PERSISTENT_SEQUENTIAL s_EPHEMERAL_SEQUENTIAL)), .val (.int (1 : Int32))] [])) _
        refine XS.aloadN X8.here hx rfl (hb hby at_27) rfl rfl ?_
        show Steps p.tables e below (T8.setTop (mkF m 28 #[.val (.int p1), .val (.ref (own_f1 (p1 &&& (3 : Int32)) s_PERSISTENT s_EPHEMERAL s_PERSISTENT_SEQUENTIAL s_EPHEMERAL_SEQUENTIAL)), .val (.int (1 : Int32))] [(.ref (own_f1 (p1 &&& (3 : Int32)) s_PERSISTENT s_EPHEMERAL s_PERSISTENT_SEQUENTIAL s_EPHEMERAL_SEQUENTIAL))])) _
        refine st11.trans ?_
        show Steps p.tables e below (T11.setTop (mkF m 31 #[.val (.int p1), .val (.ref (own_f1 (p1 &&& (3 : Int32)) s_PERSISTENT s_EPHEMERAL s_PERSISTENT_SEQUENTIAL s_EPHEMERAL_SEQUENTIAL)), .val (.int (1 : Int32))] [(.int (own_f2 w7))])) _
        refine XS.iloadN X11.here hx rfl (hb hby at_31) rfl ?_
        show Steps p.tables e below (T11.setTop (mkF m 32 #[.val (.int p1), .val (.ref (own_f1 (p1 &&& (3 : Int32)) s_PERSISTENT s_EPHEMERAL s_PERSISTENT_SEQUENTIAL s_EPHEMERAL_SEQUENTIAL)), .val (.int (1 : Int32))] [(.int (1 : Int32)), (.int (own_f2 w7))])) _
        refine XS.icmpNo X11.here hx rfl (hb hby at_32) rfl (teq (hq32_2 hc4 hc9)).2 ?_
        show Steps p.tables e below (T11.setTop (mkF m 35 #[.val (.int p1), .val (.ref (own_f1 (p1 &&& (3 : Int32)) s_PERSISTENT s_EPHEMERAL s_PERSISTENT_SEQUENTIAL s_EPHEMERAL_SEQUENTIAL)), .val (.int (1 : Int32))] [])) _
        refine XS.iconst X11.here hx rfl (hb hby at_35) ?_
        show Steps p.tables e below (T11.setTop (mkF m 36 #[.val (.int p1), .val (.ref (own_f1 (p1 &&& (3 : Int32)) s_PERSISTENT s_EPHEMERAL s_PERSISTENT_SEQUENTIAL s_EPHEMERAL_SEQUENTIAL)), .val (.int (1 : Int32))] [(.int (1 : Int32))])) _
        refine XS.goto X11.here hx rfl (pc0 := 36) (pc' := 40) rfl (hb hby at_36) (by decide) (by decide) ?_
        show Steps p.tables e below (T11.setTop (mkF m 40 #[.val (.int p1), .val (.ref (own_f1 (p1 &&& (3 : Int32)) s_PERSISTENT s_EPHEMERAL s_PERSISTENT_SEQUENTIAL s_EPHEMERAL_SEQUENTIAL)), .val (.int (1 : Int32))] [(.int (1 : Int32))])) _
        exact retN X11 hx (t := .boolean) Bd.returns (by simp) (hb hby at_40) hr
      · show Q0 Z p1 s_PERSISTENT s_EPHEMERAL s_PERSISTENT_SEQUENTIAL s_EPHEMERAL_SEQUENTIAL w7 h0 n0 _ T11.heap _
        rw [e11]
        exact ⟨rfl, N11⟩
    · obtain ⟨cq12, kq12, q12a, q12b, q12c⟩ := isOf hZ e8 E_o1
      obtain ⟨_, _, ⟨T12, L12, k12, n12⟩, -, X12, ⟨Lc12, hQ12, l12, y12, z12⟩, st12⟩ := X8.virtualBack hx (y := (⟨"com/example/coordination_tree/coordinationtree/protocol/NodeKind", "ephemeral", "()Z"⟩ : MethodName)) (z := (⟨"com/example/coordination_tree/coordinationtree/protocol/NodeKind", "ephemeral", "()Z"⟩ : MethodName)) hown (mvT hZ (hw _ (List.mem_of_getElem? (i := 11) rfl))) (mvT hZ (hw _ (List.mem_of_getElem? (i := 12) rfl))) (notFace_of_selects (args := #[]) (mvT hZ (hw _ (List.mem_of_getElem? (i := 14) rfl)))) (mvT hZ (hw _ (List.mem_of_getElem? (i := 14) rfl))) (mvT hZ (hw _ (List.mem_of_getElem? (i := 13) rfl))) (by decide) (backOf (W := 0) (rm2 l Z a0 hw [] (own_f1 (p1 &&& (3 : Int32)) s_PERSISTENT s_EPHEMERAL s_PERSISTENT_SEQUENTIAL s_EPHEMERAL_SEQUENTIAL) w7 h0 n0 Z0 F_flags_o1) hZ (hw _ (List.mem_of_getElem? (i := 15) rfl)) (hw _ (List.mem_of_getElem? (i := 5) rfl)) (by decide) (by decide)) q12a q12c (g := (mkF m 28 #[.val (.int p1), .val (.ref (own_f1 (p1 &&& (3 : Int32)) s_PERSISTENT s_EPHEMERAL s_PERSISTENT_SEQUENTIAL s_EPHEMERAL_SEQUENTIAL)), .val (.int (0 : Int32))] [(.ref (own_f1 (p1 &&& (3 : Int32)) s_PERSISTENT s_EPHEMERAL s_PERSISTENT_SEQUENTIAL s_EPHEMERAL_SEQUENTIAL))])) rfl (by rw [hml]; rfl) (Steps.refl _) (argsL := []) (rest := []) (lenOf pd_0_1 rfl) rfl (by show 2 * 0 + _ ≤ _; exact Nat.le_of_eq rfl) (hb hby at_28) (fun _ _ => ⟨rfl, e8, (by decide : 0 + 0 ≤ _), (by decide : 0 + 0 ≤ _)⟩)
      dsimp only [Pt.U, Pt.locs, Pt.cells, Pt.slots] at X12 l12 y12 z12 st12 hQ12
      subst l12 y12 z12
      obtain ⟨rfl, N12q, e12⟩ := hQ12
      have N12 := Fr.app N2 N12q
      obtain ⟨fs, hr, hrun, hended, hW, hsame⟩ := X12.leave (v := some (.int (1 : Int32))) (fun h => by rw [Bd.returns] at h; cases h)
      refine ⟨_, _, pr10 _ ?_, hrun, hended, _, _, rfl, ?_, ⟨_, rfl⟩, hW, hsame.mono (by decide) (by decide)⟩
      · show Steps p.tables e below (T8.setTop (mkF m 18 #[.val (.int p1), .val (.ref (own_f1 (p1 &&& (3 : Int32)) s_PERSISTENT s_EPHEMERAL s_PERSISTENT_SEQUENTIAL s_EPHEMERAL_SEQUENTIAL)), .unset] [(.ref s_EPHEMERAL_SEQUENTIAL), (.ref (own_f1 (p1 &&& (3 : Int32)) s_PERSISTENT s_EPHEMERAL s_PERSISTENT_SEQUENTIAL s_EPHEMERAL_SEQUENTIAL))])) _
        refine Jvm.RoadKit.acmp (g := (mkF m 18 #[.val (.int p1), .val (.ref (own_f1 (p1 &&& (3 : Int32)) s_PERSISTENT s_EPHEMERAL s_PERSISTENT_SEQUENTIAL s_EPHEMERAL_SEQUENTIAL)), .unset] [(.ref s_EPHEMERAL_SEQUENTIAL), (.ref (own_f1 (p1 &&& (3 : Int32)) s_PERSISTENT s_EPHEMERAL s_PERSISTENT_SEQUENTIAL s_EPHEMERAL_SEQUENTIAL))])) X8 hx rfl rfl rfl (pc0 := 18) (pc' := 25) (same := false) rfl (hb hby at_18) rfl (decide_eq_false fun q => hc9 (Value.ref.inj q)) (by decide) (by decide) ?_
        show Steps p.tables e below (T8.setTop (mkF m 25 #[.val (.int p1), .val (.ref (own_f1 (p1 &&& (3 : Int32)) s_PERSISTENT s_EPHEMERAL s_PERSISTENT_SEQUENTIAL s_EPHEMERAL_SEQUENTIAL)), .unset] [])) _
        refine XS.iconst X8.here hx rfl (hb hby at_25) ?_
        show Steps p.tables e below (T8.setTop (mkF m 26 #[.val (.int p1), .val (.ref (own_f1 (p1 &&& (3 : Int32)) s_PERSISTENT s_EPHEMERAL s_PERSISTENT_SEQUENTIAL s_EPHEMERAL_SEQUENTIAL)), .unset] [(.int (0 : Int32))])) _
        refine XS.istoreN X8.here hx rfl (hb hby at_26) rfl (l' := #[.val (.int p1), .val (.ref (own_f1 (p1 &&& (3 : Int32)) s_PERSISTENT s_EPHEMERAL s_PERSISTENT_SEQUENTIAL s_EPHEMERAL_SEQUENTIAL)), .val (.int (0 : Int32))]) rfl ?_
        show Steps p.tables e below (T8.setTop (mkF m 27 #[.val (.int p1), .val (.ref (own_f1 (p1 &&& (3 : Int32)) s_PERSISTENT s_EPHEMERAL s_PERSISTENT_SEQUENTIAL s_EPHEMERAL_SEQUENTIAL)), .val (.int (0 : Int32))] [])) _
        refine XS.aloadN X8.here hx rfl (hb hby at_27) rfl rfl ?_
        show Steps p.tables e below (T8.setTop (mkF m 28 #[.val (.int p1), .val (.ref (own_f1 (p1 &&& (3 : Int32)) s_PERSISTENT s_EPHEMERAL s_PERSISTENT_SEQUENTIAL s_EPHEMERAL_SEQUENTIAL)), .val (.int (0 : Int32))] [(.ref (own_f1 (p1 &&& (3 : Int32)) s_PERSISTENT s_EPHEMERAL s_PERSISTENT_SEQUENTIAL s_EPHEMERAL_SEQUENTIAL))])) _
        refine st12.trans ?_
        show Steps p.tables e below (T12.setTop (mkF m 31 #[.val (.int p1), .val (.ref (own_f1 (p1 &&& (3 : Int32)) s_PERSISTENT s_EPHEMERAL s_PERSISTENT_SEQUENTIAL s_EPHEMERAL_SEQUENTIAL)), .val (.int (0 : Int32))] [(.int (own_f2 w7))])) _
        refine XS.iloadN X12.here hx rfl (hb hby at_31) rfl ?_
        show Steps p.tables e below (T12.setTop (mkF m 32 #[.val (.int p1), .val (.ref (own_f1 (p1 &&& (3 : Int32)) s_PERSISTENT s_EPHEMERAL s_PERSISTENT_SEQUENTIAL s_EPHEMERAL_SEQUENTIAL)), .val (.int (0 : Int32))] [(.int (0 : Int32)), (.int (own_f2 w7))])) _
        refine XS.icmpNo X12.here hx rfl (hb hby at_32) rfl (teq (hq32_3 hc4 hc9)).2 ?_
        show Steps p.tables e below (T12.setTop (mkF m 35 #[.val (.int p1), .val (.ref (own_f1 (p1 &&& (3 : Int32)) s_PERSISTENT s_EPHEMERAL s_PERSISTENT_SEQUENTIAL s_EPHEMERAL_SEQUENTIAL)), .val (.int (0 : Int32))] [])) _
        refine XS.iconst X12.here hx rfl (hb hby at_35) ?_
        show Steps p.tables e below (T12.setTop (mkF m 36 #[.val (.int p1), .val (.ref (own_f1 (p1 &&& (3 : Int32)) s_PERSISTENT s_EPHEMERAL s_PERSISTENT_SEQUENTIAL s_EPHEMERAL_SEQUENTIAL)), .val (.int (0 : Int32))] [(.int (1 : Int32))])) _
        refine XS.goto X12.here hx rfl (pc0 := 36) (pc' := 40) rfl (hb hby at_36) (by decide) (by decide) ?_
        show Steps p.tables e below (T12.setTop (mkF m 40 #[.val (.int p1), .val (.ref (own_f1 (p1 &&& (3 : Int32)) s_PERSISTENT s_EPHEMERAL s_PERSISTENT_SEQUENTIAL s_EPHEMERAL_SEQUENTIAL)), .val (.int (0 : Int32))] [(.int (1 : Int32))])) _
        exact retN X12 hx (t := .boolean) Bd.returns (by simp) (hb hby at_40) hr
      · show Q0 Z p1 s_PERSISTENT s_EPHEMERAL s_PERSISTENT_SEQUENTIAL s_EPHEMERAL_SEQUENTIAL w7 h0 n0 _ T12.heap _
        rw [e12]
        exact ⟨rfl, N12⟩
set_option maxRecDepth 65536 in
set_option maxHeartbeats 40000000 in
theorem comes_1 {Post : Tables → Env → Array Value → State → Outcome → State → Prop} (hpost : ∀ tb e args s v u, (limb_1_1.after args s (.returned v) u = true ∧ limb_1_2.after args s (.returned v) u = true ∧ True) → FrameEnd s (.returned v) u (Jvm.fieldLocs frame_1_writes args s ++ Jvm.arrayLocs frame_1_arrays args s ++ Jvm.staticLocs frame_1_statics s) 0 0 → Post tb e args s (.returned v) u) :
    ArmFor flags0 classFile x code maxLocals ret World_1 tables_1 room_1 Calls_1 rest_1 Pre_1 Post := by
  intro l hfl _ _ p e ha hc hk s m args below hf hA hF happ hP
  obtain ⟨hcalls, hrest, hpre⟩ := hP
  obtain ⟨-, -, -, hnamed, -, -, -, hat⟩ := (Spec.applies_iff hf).mp happ
  obtain ⟨hg, hn⟩ := and_e (Cond.before_iff.mp (show (Jvm.Cond.and given_1 narrow_1).before args s = true from hpre))
  obtain ⟨c1, c2⟩ := and_e hg
  obtain ⟨w0, rfl⟩ : ∃ w0 : Value, args = #[w0] := by
    have hs : args.size = 1 := by simpa [Cond.value, given_1] using c1
    obtain ⟨L⟩ := args
    match L, hs with
    | [w0], _ => exact ⟨w0, rfl⟩
  have hw := fun d (hd : d ∈ tables_1) => atoms_spec (ws := Jvm.Cond.code x code maxLocals ret :: tables_1) hat d (List.mem_cons_of_mem _ hd)
  have hfit : Fit s := fun {y c} hc i hi => by
    obtain ⟨ha, rfl⟩ := Array.getElem?_eq_some_iff.mp hc
    have q := List.all_eq_true.mp ((Array.all_eq_true_iff_forall_mem.mp hF) _ (Array.getElem_mem ha)) i (List.mem_range.mpr hi)
    simpa [Array.getElem?_eq_getElem hi] using q
  obtain ⟨i0, ei0⟩ := is_v c2
  obtain rfl : w0 = (.int i0) := Option.some.inj ei0
  obtain ⟨c3, c4⟩ := and_e hn
  obtain ⟨c5, c6⟩ := and_e c4
  obtain ⟨c7, c8⟩ := and_e c6
  obtain ⟨c9, c10⟩ := and_e c8
  obtain ⟨c11, c12⟩ := and_e c10
  obtain ⟨c13, c14⟩ := and_e c12
  obtain ⟨c15, c16⟩ := and_e c14
  obtain ⟨c17, c18⟩ := and_e c16
  obtain ⟨c19, c20⟩ := and_e c18
  obtain ⟨c21, c22⟩ := and_e c20
  obtain ⟨c23, c24⟩ := and_e c22
  obtain ⟨s_PERSISTENT, ev_PERSISTENT⟩ := exa_v c3
  have E_PERSISTENT := Exa.start ev_PERSISTENT c3
  have S_PERSISTENT := Sta.start ev_PERSISTENT (Or.inr ⟨(hw _ (List.mem_of_getElem? (i := 5) rfl)), (hw _ (List.mem_of_getElem? (i := 6) rfl))⟩)
  obtain ⟨s_EPHEMERAL, ev_EPHEMERAL⟩ := exa_v c5
  have E_EPHEMERAL := Exa.start ev_EPHEMERAL c5
  have S_EPHEMERAL := Sta.start ev_EPHEMERAL (Or.inr ⟨(hw _ (List.mem_of_getElem? (i := 5) rfl)), (hw _ (List.mem_of_getElem? (i := 8) rfl))⟩)
  obtain ⟨s_EPHEMERAL_SEQUENTIAL, ev_EPHEMERAL_SEQUENTIAL⟩ := exa_v c11
  have E_EPHEMERAL_SEQUENTIAL := Exa.start ev_EPHEMERAL_SEQUENTIAL c11
  have S_EPHEMERAL_SEQUENTIAL := Sta.start ev_EPHEMERAL_SEQUENTIAL (Or.inr ⟨(hw _ (List.mem_of_getElem? (i := 5) rfl)), (hw _ (List.mem_of_getElem? (i := 10) rfl))⟩)
  obtain ⟨s_PERSISTENT_SEQUENTIAL, ev_PERSISTENT_SEQUENTIAL⟩ := exa_v c19
  have E_PERSISTENT_SEQUENTIAL := Exa.start ev_PERSISTENT_SEQUENTIAL c19
  have S_PERSISTENT_SEQUENTIAL := Sta.start ev_PERSISTENT_SEQUENTIAL (Or.inr ⟨(hw _ (List.mem_of_getElem? (i := 5) rfl)), (hw _ (List.mem_of_getElem? (i := 19) rfl))⟩)
  have F_PERSISTENT_ordinal := own_fldI ev_PERSISTENT c7
  have F_EPHEMERAL_ordinal := own_fldI ev_EPHEMERAL c9
  have F_EPHEMERAL_SEQUENTIAL_ordinal := own_fldI ev_EPHEMERAL_SEQUENTIAL c13
  have F_PERSISTENT_flags := own_fldI ev_PERSISTENT c15
  have F_EPHEMERAL_SEQUENTIAL_flags := own_fldI ev_EPHEMERAL_SEQUENTIAL c17
  have F_PERSISTENT_SEQUENTIAL_ordinal := own_fldI ev_PERSISTENT_SEQUENTIAL c21
  have F_PERSISTENT_SEQUENTIAL_flags := own_fldI ev_PERSISTENT_SEQUENTIAL c23
  have F_EPHEMERAL_flags := own_fldI ev_EPHEMERAL c24
  have hd := own_and i0 3 (by decide)
  have key : ∃ w7 : Int32, (Exa s s.heap (own_f1 (i0 &&& (3 : Int32)) s_PERSISTENT s_EPHEMERAL s_PERSISTENT_SEQUENTIAL s_EPHEMERAL_SEQUENTIAL) "com/example/coordination_tree/coordinationtree/protocol/NodeKind") ∧ (Fld s s.heap (own_f1 (i0 &&& (3 : Int32)) s_PERSISTENT s_EPHEMERAL s_PERSISTENT_SEQUENTIAL s_EPHEMERAL_SEQUENTIAL) "com/example/coordination_tree/coordinationtree/protocol/NodeKind" "flags" "I" (.int w7)) ∧ (((own_f1 (i0 &&& (3 : Int32)) s_PERSISTENT s_EPHEMERAL s_PERSISTENT_SEQUENTIAL s_EPHEMERAL_SEQUENTIAL) = s_EPHEMERAL) → (own_f2 w7) = (1 : Int32)) ∧ ((¬ ((own_f1 (i0 &&& (3 : Int32)) s_PERSISTENT s_EPHEMERAL s_PERSISTENT_SEQUENTIAL s_EPHEMERAL_SEQUENTIAL) = s_EPHEMERAL)) → ((own_f1 (i0 &&& (3 : Int32)) s_PERSISTENT s_EPHEMERAL s_PERSISTENT_SEQUENTIAL s_EPHEMERAL_SEQUENTIAL) = s_EPHEMERAL_SEQUENTIAL) → (own_f2 w7) = (1 : Int32)) ∧ ((¬ ((own_f1 (i0 &&& (3 : Int32)) s_PERSISTENT s_EPHEMERAL s_PERSISTENT_SEQUENTIAL s_EPHEMERAL_SEQUENTIAL) = s_EPHEMERAL)) → (¬ ((own_f1 (i0 &&& (3 : Int32)) s_PERSISTENT s_EPHEMERAL s_PERSISTENT_SEQUENTIAL s_EPHEMERAL_SEQUENTIAL) = s_EPHEMERAL_SEQUENTIAL)) → (own_f2 w7) = (0 : Int32)) := by
    rcases own_upto4 (i0 &&& (3 : Int32)) hd.1 (by have := hd.2; exact Int.lt_of_le_of_lt this (by decide)) with hk | hk | hk | hk
    · rw [hk, show (own_f1 (0 : Int32) s_PERSISTENT s_EPHEMERAL s_PERSISTENT_SEQUENTIAL s_EPHEMERAL_SEQUENTIAL) = s_PERSISTENT from by unfold own_f1; rw [if_pos (by decide : (0 : Int32) = (0 : Int32))]]
      have ne : ¬ (s_PERSISTENT = s_EPHEMERAL) := Fld.ne F_PERSISTENT_flags F_EPHEMERAL_flags (by decide)
      have ne : ¬ (s_PERSISTENT = s_EPHEMERAL_SEQUENTIAL) := Fld.ne F_PERSISTENT_flags F_EPHEMERAL_SEQUENTIAL_flags (by decide)
      exact ⟨0, E_PERSISTENT, F_PERSISTENT_flags, (by intros; first | decide | contradiction), (by intros; first | decide | contradiction), (by intros; first | decide | contradiction)⟩
    · rw [hk, show (own_f1 (1 : Int32) s_PERSISTENT s_EPHEMERAL s_PERSISTENT_SEQUENTIAL s_EPHEMERAL_SEQUENTIAL) = s_EPHEMERAL from by unfold own_f1; rw [if_neg (by decide : ¬ ((1 : Int32) = (0 : Int32))), if_pos (by decide : (1 : Int32) = (1 : Int32))]]
      have ne : ¬ (s_EPHEMERAL = s_EPHEMERAL_SEQUENTIAL) := Fld.ne F_EPHEMERAL_flags F_EPHEMERAL_SEQUENTIAL_flags (by decide)
      exact ⟨1, E_EPHEMERAL, F_EPHEMERAL_flags, (by intros; first | decide | contradiction), (by intros; first | decide | contradiction), (by intros; first | decide | contradiction)⟩
    · rw [hk, show (own_f1 (2 : Int32) s_PERSISTENT s_EPHEMERAL s_PERSISTENT_SEQUENTIAL s_EPHEMERAL_SEQUENTIAL) = s_PERSISTENT_SEQUENTIAL from by unfold own_f1; rw [if_neg (by decide : ¬ ((2 : Int32) = (0 : Int32))), if_neg (by decide : ¬ ((2 : Int32) = (1 : Int32))), if_pos (by decide : (2 : Int32) = (2 : Int32))]]
      have ne : ¬ (s_PERSISTENT_SEQUENTIAL = s_EPHEMERAL) := Fld.ne F_PERSISTENT_SEQUENTIAL_flags F_EPHEMERAL_flags (by decide)
      have ne : ¬ (s_PERSISTENT_SEQUENTIAL = s_EPHEMERAL_SEQUENTIAL) := Fld.ne F_PERSISTENT_SEQUENTIAL_flags F_EPHEMERAL_SEQUENTIAL_flags (by decide)
      exact ⟨2, E_PERSISTENT_SEQUENTIAL, F_PERSISTENT_SEQUENTIAL_flags, (by intros; first | decide | contradiction), (by intros; first | decide | contradiction), (by intros; first | decide | contradiction)⟩
    · rw [hk, show (own_f1 (3 : Int32) s_PERSISTENT s_EPHEMERAL s_PERSISTENT_SEQUENTIAL s_EPHEMERAL_SEQUENTIAL) = s_EPHEMERAL_SEQUENTIAL from by unfold own_f1; rw [if_neg (by decide : ¬ ((3 : Int32) = (0 : Int32))), if_neg (by decide : ¬ ((3 : Int32) = (1 : Int32))), if_neg (by decide : ¬ ((3 : Int32) = (2 : Int32)))]]
      have ne : ¬ (s_EPHEMERAL_SEQUENTIAL = s_EPHEMERAL) := Fld.ne F_EPHEMERAL_SEQUENTIAL_flags F_EPHEMERAL_flags (by decide)
      exact ⟨3, E_EPHEMERAL_SEQUENTIAL, F_EPHEMERAL_SEQUENTIAL_flags, (by intros; first | decide | contradiction), (by intros; first | decide | contradiction), (by intros; first | decide | contradiction)⟩
  obtain ⟨w7, E_o1, F_flags_o1, hq32_1, hq32_2, hq32_3⟩ := key
  obtain ⟨n, o, h1, h2, h3, _, L, rfl, ⟨rfl, N⟩, hq⟩ := rm0 l s _ hw tables_1 i0 s_PERSISTENT s_EPHEMERAL s_PERSISTENT_SEQUENTIAL s_EPHEMERAL_SEQUENTIAL w7 s.heap s.heap.size (Nat.le_refl _) S_PERSISTENT S_EPHEMERAL S_PERSISTENT_SEQUENTIAL S_EPHEMERAL_SEQUENTIAL E_o1 F_flags_o1 hq32_1 hq32_2 hq32_3 p e ha hc hk s m _ below hf ((Spec.applies_iff_loose hf).mp happ).1 ⟨rfl, State.Warmed39.refl s, rfl⟩ trivial
  refine ⟨n, _, h1, h2, h3, hpost _ _ _ _ _ _ ⟨Cond.after_iff.mpr rfl, Cond.after_iff.mpr (eq_i res_at (Term.int_eval (1)) rfl), trivial⟩ ⟨hq.1, hq.2.1, (hq.2.2.sift fun y hy => Or.inr (N y hy)).mono (by decide) (by decide)⟩⟩
theorem main_1_1 : Claimed_1_1 := comes_1 fun _ _ _ _ _ _ h hF => ⟨h.1, hF⟩
theorem main_1_2 : Claimed_1_2 := comes_1 fun _ _ _ _ _ _ h hF => ⟨h.2.1, hF⟩
end Jvm.Pilot.@@N@@
namespace Jvm.Pilot.@@N@@
open Jvm Jvm.ClassFile Sem Op Lib Jvm.Free Jvm.Stand Jvm.Pilot.@@N@@.Jvm.D
/-! MADE BY PROGRAM (witnessworld.py) out of the Statement's table words and the real class files: 12 classes; the members and pool entries that the words name. The judged class is class 1, her method 2. -/
namespace start1
open Jvm.ClassFile
def u (s : String) : CpInfo := .utf8 (stringToUtf16 s)
/-- a pool by its gaps: so many unusable entries, then the entry; so many at the end -/
def gap : Nat → List CpInfo → List CpInfo
  | 0, r => r
  | n + 1, r => .unusable :: gap n r
def poolList (es : List (Nat × CpInfo)) (last : Nat) : List CpInfo := es.foldr (fun e r => gap e.1 (e.2 :: r)) (gap last [])
def pool (es : List (Nat × CpInfo)) (last : Nat) : Array CpInfo := ⟨poolList es last⟩
def fileOf (pool : Array CpInfo) (this : Nat) (attrs : Array Attribute := #[]) (ms : Array MethodInfo := #[]) (fl : Nat := 33) (sup : Nat := 0) (ifs : Array Nat := #[]) (fds : Array FieldInfo := #[]) : ClassFile where
  minorVersion := 0
  majorVersion := 65
  constantPool := pool
  accessFlags := fl
  thisClass := this
  superClass := sup
  interfaces := ifs
  fields := fds
  methods := ms
  attributes := attrs
def plain (name : String) (sup : Option ClassId) : Class where
  name := name
  kind := .ordinary
  loader := none
  accessFlags := 33
  super := sup
  interfaces := #[]
  cf := none
  fields := #[]
  methods := #[]
  instanceTypes := #[]
  staticTypes := #[]
  resolved := #[]
  callSites := []
  init := .initialized
  statics := none
  mirror := none

def pool0 : Array CpInfo := pool [(5, u "<init>"), (0, u "()V"), (1, .class_ 10), (1, u "java/lang/Object")] 113

def k0m0 : Method := { name := "<init>", desc := "()V", sig := { parameters := [], returnType := none }, accessFlags := 1, code := none }
/-- java/lang/Object -/
def k0 : Class := { plain "java/lang/Object" none with
  accessFlags := 33
  interfaces := #[]
  cf := some (fileOf pool0 8 #[] #[{ accessFlags := 1, nameIndex := 5, descriptorIndex := 6, attributes := #[] }] 33 0 #[] #[])
  fields := #[]
  methods := #[k0m0]
  instanceTypes := #[]
  staticTypes := #[]
  resolved := Array.replicate 124 none
  statics := none }

def pool1 : Array CpInfo := pool [(2, .class_ 4), (1, u "java/lang/Object"), (0, u "<init>"), (0, u "()V"), (0, .fieldref 8 9), (0, .class_ 10), (0, .nameAndType 11 12), (0, u "com/example/coordination_tree/coordinationtree/protocol/NodeKind"), (0, u "PERSISTENT"), (0, u "Lcom/example/coordination_tree/coordinationtree/protocol/NodeKind;"), (0, .fieldref 8 14), (0, .nameAndType 15 12), (0, u "EPHEMERAL"), (0, .fieldref 8 17), (0, .nameAndType 18 12), (0, u "PERSISTENT_SEQUENTIAL"), (0, .fieldref 8 20), (0, .nameAndType 21 12), (0, u "EPHEMERAL_SEQUENTIAL"), (0, .methodref 23 24), (0, .class_ 25), (0, .nameAndType 26 27), (0, u "com/example/coordination_tree/coordinationtree/protocol/NodeKindEphemeralPinLaw"), (0, u "pick"), (0, u "(I)Lcom/example/coordination_tree/coordinationtree/protocol/NodeKind;"), (0, .methodref 8 29), (0, .nameAndType 30 31), (0, u "ephemeral"), (0, u "()Z"), (3, u "law"), (0, u "(I)Z")] 2

def k1m0 : Method := { name := "<init>", desc := "()V", sig := { parameters := [], returnType := none }, accessFlags := 2, code := none }
def k1c1 : Code := { maxStack := 2, maxLocals := 1, code := method_2_code, exceptionTable := #[], attributes := #[] }
def k1m1 : Method := { name := "pick", desc := "(I)Lcom/example/coordination_tree/coordinationtree/protocol/NodeKind;", sig := { parameters := [.int], returnType := some (.object "com/example/coordination_tree/coordinationtree/protocol/NodeKind") }, accessFlags := 10, code := some k1c1 }
def k1c2 : Code := { maxStack := 2, maxLocals := 3, code := code, exceptionTable := #[], attributes := #[] }
def k1m2 : Method := { name := "law", desc := "(I)Z", sig := { parameters := [.int], returnType := some .boolean }, accessFlags := 9, code := some k1c2 }
/-- com/example/coordination_tree/coordinationtree/protocol/NodeKindEphemeralPinLaw -/
def k1 : Class := { plain "com/example/coordination_tree/coordinationtree/protocol/NodeKindEphemeralPinLaw" (some 0) with
  accessFlags := 49
  interfaces := #[]
  cf := some (fileOf pool1 23 #[] #[{ accessFlags := 2, nameIndex := 5, descriptorIndex := 6, attributes := #[] }, { accessFlags := 10, nameIndex := 26, descriptorIndex := 27, attributes := #[] }, { accessFlags := 9, nameIndex := 35, descriptorIndex := 36, attributes := #[] }] 49 2 #[] #[])
  fields := #[]
  methods := #[k1m0, k1m1, k1m2]
  instanceTypes := #[]
  staticTypes := #[]
  resolved := Array.replicate 39 none
  statics := none }

def pool2 : Array CpInfo := pool [(1, .class_ 2), (0, u "java/lang/constant/Constable"), (0, .class_ 4), (0, u "java/lang/Object")] 6

/-- java/lang/constant/Constable -/
def k2 : Class := { plain "java/lang/constant/Constable" (some 0) with
  accessFlags := 1537
  interfaces := #[]
  cf := some (fileOf pool2 1 #[] #[] 1537 3 #[] #[])
  fields := #[]
  methods := #[]
  instanceTypes := #[]
  staticTypes := #[]
  resolved := Array.replicate 11 none
  statics := none }

def pool3 : Array CpInfo := pool [(1, .class_ 2), (0, u "java/lang/Comparable"), (0, .class_ 4), (0, u "java/lang/Object")] 7

/-- java/lang/Comparable -/
def k3 : Class := { plain "java/lang/Comparable" (some 0) with
  accessFlags := 1537
  interfaces := #[]
  cf := some (fileOf pool3 1 #[] #[] 1537 3 #[] #[])
  fields := #[]
  methods := #[]
  instanceTypes := #[]
  staticTypes := #[]
  resolved := Array.replicate 12 none
  statics := none }

def pool4 : Array CpInfo := pool [(1, .class_ 2), (0, u "java/io/Serializable"), (0, .class_ 4), (0, u "java/lang/Object")] 2

/-- java/io/Serializable -/
def k4 : Class := { plain "java/io/Serializable" (some 0) with
  accessFlags := 1537
  interfaces := #[]
  cf := some (fileOf pool4 1 #[] #[] 1537 3 #[] #[])
  fields := #[]
  methods := #[]
  instanceTypes := #[]
  staticTypes := #[]
  resolved := Array.replicate 7 none
  statics := none }

def pool5 : Array CpInfo := pool [(2, .class_ 4), (1, u "java/lang/Enum"), (0, u "name"), (0, u "Ljava/lang/String;"), (2, u "ordinal"), (0, u "I"), (1, .class_ 14), (1, u "java/lang/Object"), (4, u "hash"), (86, .class_ 108), (1, u "java/lang/Enum$EnumDesc"), (2, .class_ 112), (0, u "java/lang/constant/Constable"), (0, .class_ 114), (0, u "java/lang/Comparable"), (0, .class_ 116), (0, u "java/io/Serializable")] 87

/-- java/lang/Enum -/
def k5 : Class := { plain "java/lang/Enum" (some 0) with
  accessFlags := 1057
  interfaces := #[2, 3, 4]
  cf := some (fileOf pool5 2 #[.nestMembers #[106]] #[] 1057 12 #[111, 113, 115] #[{ accessFlags := 18, nameIndex := 5, descriptorIndex := 6, attributes := #[] }, { accessFlags := 18, nameIndex := 9, descriptorIndex := 10, attributes := #[] }, { accessFlags := 2, nameIndex := 19, descriptorIndex := 10, attributes := #[] }])
  fields := #[{ name := "name", type := (.object "java/lang/String"), accessFlags := 18, slot := 0, constantValue := 0 }, { name := "ordinal", type := .int, accessFlags := 18, slot := 1, constantValue := 0 }, { name := "hash", type := .int, accessFlags := 2, slot := 2, constantValue := 0 }]
  methods := #[]
  instanceTypes := #[(.object "java/lang/String"), .int, .int]
  staticTypes := #[]
  resolved := Array.replicate 204 none
  statics := none }

def pool6 : Array CpInfo := pool [(1, .class_ 2), (0, u "com/example/coordination_tree/coordinationtree/protocol/NodeKind"), (2, u "PERSISTENT"), (0, u "Lcom/example/coordination_tree/coordinationtree/protocol/NodeKind;"), (2, u "EPHEMERAL"), (2, u "PERSISTENT_SEQUENTIAL"), (2, u "EPHEMERAL_SEQUENTIAL"), (2, u "$VALUES"), (0, u "[Lcom/example/coordination_tree/coordinationtree/protocol/NodeKind;"), (6, .class_ 28), (1, u "java/lang/Enum"), (6, .fieldref 1 36), (0, .nameAndType 37 38), (0, u "flags"), (0, u "I"), (14, u "EPHEMERAL_BIT"), (2, u "SEQUENTIAL_BIT"), (8, u "ephemeral"), (0, u "()Z")] 9

def k6c0 : Code := { maxStack := 2, maxLocals := 1, code := prog_46_method_5_code, exceptionTable := #[], attributes := #[] }
def k6m0 : Method := { name := "ephemeral", desc := "()Z", sig := { parameters := [], returnType := some .boolean }, accessFlags := 1, code := some k6c0 }
/-- com/example/coordination_tree/coordinationtree/protocol/NodeKind -/
def k6 : Class := { plain "com/example/coordination_tree/coordinationtree/protocol/NodeKind" (some 5) with
  accessFlags := 16433
  interfaces := #[]
  cf := some (fileOf pool6 1 #[] #[{ accessFlags := 1, nameIndex := 65, descriptorIndex := 66, attributes := #[] }] 16433 26 #[] #[{ accessFlags := 16409, nameIndex := 5, descriptorIndex := 6, attributes := #[] }, { accessFlags := 16409, nameIndex := 9, descriptorIndex := 6, attributes := #[] }, { accessFlags := 16409, nameIndex := 12, descriptorIndex := 6, attributes := #[] }, { accessFlags := 16409, nameIndex := 15, descriptorIndex := 6, attributes := #[] }, { accessFlags := 26, nameIndex := 53, descriptorIndex := 38, attributes := #[] }, { accessFlags := 26, nameIndex := 56, descriptorIndex := 38, attributes := #[] }, { accessFlags := 18, nameIndex := 37, descriptorIndex := 38, attributes := #[] }, { accessFlags := 4122, nameIndex := 18, descriptorIndex := 19, attributes := #[] }])
  fields := #[{ name := "PERSISTENT", type := (.object "com/example/coordination_tree/coordinationtree/protocol/NodeKind"), accessFlags := 16409, slot := 0, constantValue := 0 }, { name := "EPHEMERAL", type := (.object "com/example/coordination_tree/coordinationtree/protocol/NodeKind"), accessFlags := 16409, slot := 1, constantValue := 0 }, { name := "PERSISTENT_SEQUENTIAL", type := (.object "com/example/coordination_tree/coordinationtree/protocol/NodeKind"), accessFlags := 16409, slot := 2, constantValue := 0 }, { name := "EPHEMERAL_SEQUENTIAL", type := (.object "com/example/coordination_tree/coordinationtree/protocol/NodeKind"), accessFlags := 16409, slot := 3, constantValue := 0 }, { name := "EPHEMERAL_BIT", type := .int, accessFlags := 26, slot := 4, constantValue := 0 }, { name := "SEQUENTIAL_BIT", type := .int, accessFlags := 26, slot := 5, constantValue := 0 }, { name := "flags", type := .int, accessFlags := 18, slot := 3, constantValue := 0 }, { name := "$VALUES", type := (.array (.object "com/example/coordination_tree/coordinationtree/protocol/NodeKind")), accessFlags := 4122, slot := 6, constantValue := 0 }]
  methods := #[k6m0]
  instanceTypes := #[(.object "java/lang/String"), .int, .int, .int]
  staticTypes := #[(.object "com/example/coordination_tree/coordinationtree/protocol/NodeKind"), (.object "com/example/coordination_tree/coordinationtree/protocol/NodeKind"), (.object "com/example/coordination_tree/coordinationtree/protocol/NodeKind"), (.object "com/example/coordination_tree/coordinationtree/protocol/NodeKind"), .int, .int, (.array (.object "com/example/coordination_tree/coordinationtree/protocol/NodeKind"))]
  resolved := Array.replicate 76 none
  statics := some 0 }

def pool7 : Array CpInfo := pool [(1, u "java/lang/Cloneable"), (0, .class_ 1), (0, u "java/lang/Object"), (0, .class_ 3)] 3

/-- java/lang/Cloneable -/
def k7 : Class := { plain "java/lang/Cloneable" (some 0) with
  accessFlags := 1537
  interfaces := #[]
  cf := some (fileOf pool7 2 #[] #[] 1537 4 #[] #[])
  fields := #[]
  methods := #[]
  instanceTypes := #[]
  staticTypes := #[]
  resolved := Array.replicate 8 none
  statics := none }

/-- the primitive byte -/
def k8 : Class := { plain "byte" none with kind := .primitive 'B', accessFlags := 0x411 }
/-- [B -/
def k9 : Class := { plain "[B" (some 0) with kind := .array 8 .byte, interfaces := #[7, 4], accessFlags := 1041 }

/-- the primitive int -/
def k10 : Class := { plain "int" none with kind := .primitive 'I', accessFlags := 0x411 }
/-- [I -/
def k11 : Class := { plain "[I" (some 0) with kind := .array 10 .int, interfaces := #[7, 4], accessFlags := 1041 }

def heap : Heap := #[{ cls := 6, slots := #[.ref 1, .ref 2, .ref 4, .ref 3, .int 0, .int 0, .null], vm := .statics 6 },
  { cls := 6, slots := #[.null, .int 0, .int 0, .int 0], vm := .none },
  { cls := 6, slots := #[.null, .int 1, .int 0, .int 1], vm := .none },
  { cls := 6, slots := #[.null, .int 3, .int 0, .int 3], vm := .none },
  { cls := 6, slots := #[.null, .int 2, .int 0, .int 2], vm := .none }]
def classes : Array Class := #[k0, k1, k2, k3, k4, k5, k6, k7, k8, k9, k10, k11]
def interned : List (Array UInt16 × Addr) := []
def slotsUsed : Nat := 23
def theMethod : MethodId := ⟨1, 2⟩
def args0 : Array Value := #[.int 5]
def aboutOver (below : List Frame) : State where
  vm := { classes := classes, interned := interned.toArray }
  heap := heap
  slotsUsed := slotsUsed
  threads := #[{ frames := .invoking theMethod args0 :: below }]
def below0 : List Frame := [.native { method := ⟨0, 0⟩, args := #[] }]
def about1 : State := aboutOver below0
def p0 : Program := .bare "" "" ""
def e0 : Env := launch0.env 0 0 0
theorem w_frames : about1.frames = Frame.invoking theMethod args0 :: below0 := rfl
set_option maxRecDepth 65536 in
theorem w_args : argsFit about1.vm theMethod args0 = true := by decide +kernel
set_option maxRecDepth 65536 in
theorem w_heap : heapFits about1 = true := by decide +kernel
set_option maxRecDepth 65536 in
theorem w_runnable : about1.curStatus? = some .runnable := by decide +kernel
set_option maxRecDepth 65536 in
theorem w_alone : about1.alone = true := by decide +kernel
set_option maxRecDepth 65536 in
theorem w_named : about1.methodNamed? x = some theMethod := by decide +kernel
set_option maxRecDepth 65536 in
theorem w_hears : about1.hears theMethod below0 = true := by decide +kernel
set_option maxRecDepth 65536 in
theorem w_ripe : about1.ripe theMethod args0 below0 = true := by decide +kernel
theorem w_running : about1.status = .running := rfl
set_option maxRecDepth 65536 in
theorem w_room : about1.hasRoom e0.platform room_1 = true :=
  launch0.hasRoom_least _ room_1 (by decide +kernel) (by decide +kernel) (by decide +kernel) (by decide +kernel) (by decide +kernel) (by decide +kernel)
theorem allAtoms_all (ts : List Jvm.Cond) (a : Array Jvm.Value) (st : Jvm.State) : (allAtoms ts).before a st = ts.all (fun c => c.before a st) := by
  induction ts with
  | nil => rfl
  | cons c t ih =>
    show (Jvm.Cond.and c (allAtoms t)).before a st = _
    rw [Jvm.Cond.before_and, ih, List.all_cons]
def words1 : List Jvm.Cond := Jvm.Cond.code x code maxLocals ret :: tables_1
/-- a 'code' word, met by the world's own term for the bytes: nothing is compared byte by byte -/
theorem code_word {y : MethodName} {bytes : ByteArray} {mx : Nat} {rt : Option FieldType} {a : Array Value} {s : State} {m : MethodId} {meth : Method} {c : Code} (h1 : s.methodNamed? y = some m) (h2 : s.vm.method? m = some meth) (h3 : meth.code = some c) (h4 : c.code = bytes)
    (h5 : (c.maxLocals == mx && c.exceptionTable.isEmpty && decide (c.maxStack ≤ mostOperands) && decide (meth.sig.returnType = rt) && !meth.locks && decide (parseMethodDescriptor y.desc = some meth.sig)) = true) : (Jvm.Cond.code y bytes mx rt).before a s = true := by
  simp only [Bool.and_eq_true, beq_iff_eq, Bool.not_eq_true', decide_eq_true_eq] at h5
  obtain ⟨⟨⟨⟨⟨g1, g2⟩, g3⟩, g4⟩, g5⟩, g6⟩ := h5
  simp [Cond.before, Cond.holds, Cond.value, h1, h2, h3, h4, g1, g2, g3, g4, g5, g6]
def isCode : Jvm.Cond → Bool
  | .code _ _ _ _ => true
  | _ => false
theorem all_split {L : List Jvm.Cond} {P : Jvm.Cond → Bool} (h1 : L.all (fun c => isCode c || P c) = true) (h2 : ∀ c ∈ L.filter isCode, P c = true) : L.all P = true := by
  refine List.all_eq_true.mpr fun c hc => ?_
  have h := List.all_eq_true.mp h1 c hc
  rcases Bool.eq_false_or_eq_true (isCode c) with hi | hi
  · exact h2 c (List.mem_filter.mpr ⟨hc, hi⟩)
  · simpa [hi] using h
set_option maxRecDepth 65536 in
theorem w_c0 : (Jvm.Cond.code x code maxLocals ret).before args0 about1 = true := code_word (m := ⟨1, 2⟩) (meth := k1m2) (c := k1c2) (by decide +kernel) rfl rfl rfl (by decide +kernel)
set_option maxRecDepth 65536 in
theorem w_c1 : (Jvm.Cond.code ({ cls := "com/example/coordination_tree/coordinationtree/protocol/NodeKindEphemeralPinLaw", name := "pick", desc := "(I)Lcom/example/coordination_tree/coordinationtree/protocol/NodeKind;" } : Jvm.MethodName) method_2_code (1 : Nat) (Option.some (Jvm.ClassFile.FieldType.object "com/example/coordination_tree/coordinationtree/protocol/NodeKind"))).before args0 about1 = true := code_word (m := ⟨1, 1⟩) (meth := k1m1) (c := k1c1) (by decide +kernel) rfl rfl rfl (by decide +kernel)
set_option maxRecDepth 65536 in
theorem w_c2 : (Jvm.Cond.code ({ cls := "com/example/coordination_tree/coordinationtree/protocol/NodeKind", name := "ephemeral", desc := "()Z" } : Jvm.MethodName) prog_46_method_5_code (1 : Nat) (Option.some Jvm.ClassFile.FieldType.boolean)).before args0 about1 = true := code_word (m := ⟨6, 0⟩) (meth := k6m0) (c := k6c0) (by decide +kernel) rfl rfl rfl (by decide +kernel)
def codes1 : List Jvm.Cond := [Jvm.Cond.code x code maxLocals ret, Jvm.Cond.code ({ cls := "com/example/coordination_tree/coordinationtree/protocol/NodeKindEphemeralPinLaw", name := "pick", desc := "(I)Lcom/example/coordination_tree/coordinationtree/protocol/NodeKind;" } : Jvm.MethodName) method_2_code (1 : Nat) (Option.some (Jvm.ClassFile.FieldType.object "com/example/coordination_tree/coordinationtree/protocol/NodeKind")), Jvm.Cond.code ({ cls := "com/example/coordination_tree/coordinationtree/protocol/NodeKind", name := "ephemeral", desc := "()Z" } : Jvm.MethodName) prog_46_method_5_code (1 : Nat) (Option.some Jvm.ClassFile.FieldType.boolean)]
set_option maxRecDepth 65536 in
theorem codes_eq : words1.filter isCode = codes1 := rfl
theorem w_codes : ∀ c ∈ words1.filter isCode, c.before args0 about1 = true := by
  rw [codes_eq]
  intro c hc
  simp only [codes1, List.mem_cons, List.not_mem_nil, or_false] at hc
  rcases hc with rfl | rfl | rfl
  · exact w_c0
  · exact w_c1
  · exact w_c2
set_option maxRecDepth 65536 in
theorem w_t1 : words1.all (fun c => isCode c || c.before args0 about1) = true := by decide +kernel
theorem w_tables : (allAtoms (Jvm.Cond.code x code maxLocals ret :: tables_1)).before args0 about1 = true := by
  rw [allAtoms_all]
  show words1.all (fun c => c.before args0 about1) = true
  refine all_split ?_ w_codes
  rw [w_t1]
set_option maxRecDepth 65536 in
theorem w_case : (Jvm.Cond.and given_1 narrow_1).before args0 about1 = true := by decide +kernel
theorem w_applies : (headSpec (Jvm.Cond.code x code maxLocals ret :: tables_1) room_1).applies x e0.platform about1 = true :=
  (Spec.applies_iff w_frames).mpr ⟨w_running, w_runnable, w_alone, w_named, w_hears, w_ripe, w_room, w_tables⟩
theorem atStart : AtStart classFile x code maxLocals ret World_1 tables_1 room_1 Calls_1 rest_1 Pre_1 launch0 p0 e0 about1 theMethod args0 below0 :=
  ⟨lists_1, trivial, launch0.admits_env _ _ _, launch0.least_env, fairChoices_fair.cas, fairChoices_fair.clock, w_frames, w_args, w_heap, w_applies, trivial, trivial, w_case⟩
end start1
theorem witness_1 : WitnessClaimed_1 := ⟨start1.p0, start1.e0, start1.about1, start1.theMethod, start1.args0, start1.below0, start1.atStart⟩
end Jvm.Pilot.@@N@@
