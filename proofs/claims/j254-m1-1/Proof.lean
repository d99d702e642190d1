import JvmDerived
import JvmDerived.Pilot.@@N@@Statement
import JvmDerived.Pilot.@@N@@Code
set_option linter.unusedVariables false
set_option linter.unusedSimpArgs false
namespace Jvm.Pilot.@@N@@
open Jvm Jvm.ClassFile Sem Op Lib Jvm.Free Jvm.Stand Jvm.LawKit Jvm.RoadKit Bundle Jvm.Pilot.@@N@@.Jvm.D
theorem own_fldI {Z : State} {args : Array Value} {t : Term} {a : Addr} {C n d : String} {z : Int32} (ev : t.eval args Z none [] Z = some (.ref a)) (h : (Cond.eq (Term.field t C n d) (Term.int z)).value args Z none Z [] = some true) : Fld Z Z.heap a C n d (.int z) := by
  obtain ⟨x, y, h1, h2, k1, k2⟩ := cmp_v (Or.inl h)
  have e2 : y = .int z := (Option.some.inj h2).symm
  subst e2
  obtain ⟨w, rfl⟩ := k2
  have hq : (Cond.eq (Term.field t C n d) (Term.int z)).value args Z none Z [] = some (decide (w = z)) := by simp [Cond.value, h1, h2]
  have hw : w = z := gotT hq h
  subst hw
  exact Fld.start ((fld_at ev).symm.trans h1)
theorem own_fldJ {Z : State} {args : Array Value} {t : Term} {a : Addr} {C n d : String} {z : Int64} (ev : t.eval args Z none [] Z = some (.ref a)) (h : (Cond.eq (Term.field t C n d) (Term.long z)).value args Z none Z [] = some true) : Fld Z Z.heap a C n d (.long z) := by
  obtain ⟨x, y, h1, h2, k1, k2⟩ := cmp_v (Or.inl h)
  have e2 : y = .long z := (Option.some.inj h2).symm
  subst e2
  obtain ⟨w, rfl⟩ := k2
  have hq : (Cond.eq (Term.field t C n d) (Term.long z)).value args Z none Z [] = some (decide (w = z)) := eq_L h1 h2
  have hw : w = z := gotT hq h
  subst hw
  exact Fld.start ((fld_at ev).symm.trans h1)
theorem own_arrKeep {Z : State} {h h' : Heap} {ws : List Addr} {a : Addr} {c : Cell} {ty : FieldType} (F : Arr Z h a c ty) (K : Keep h h' ws) (q : a ∉ ws) : Arr Z h' a c ty := ⟨K.2.1 _ _ F.1 q, F.2⟩
theorem own_staKeep {Z : State} {h h' : Heap} {ws : List Addr} {C n d : String} {v : Value} (F : Sta Z h C n d v) (K : Keep h h' ws) (q : ∀ x ∈ ws, ∀ c : Cell, h[x]? = some c → c.vm.isStatics = false) : Sta Z h' C n d v := by
  obtain ⟨cf, i, k, f, st, cell, h1, h2, h3, h4, h5, h6, h7⟩ := F
  exact ⟨cf, i, k, f, st, cell, h1, h2, h3, h4, K.2.1 _ _ h5 (fun z => by rw [q _ z _ h5] at h6; cases h6), h6, h7⟩
theorem own_mask31 (x : Int32) : 0 ≤ (x &&& 2147483647).toInt := by
  have h := c_mask x 2147483647 31 (by decide) (by decide)
  rw [h]; exact Int.emod_nonneg _ (by decide)
theorem own_mod (x : Int32) (y : Int32) (d : Int) (hy : y.toInt = d) (hd : 0 < d) : 0 ≤ ((x &&& 2147483647) % y).toInt ∧ ((x &&& 2147483647) % y).toInt < d := by
  have h := (c_irem (x &&& 2147483647) y d hy).1 (own_mask31 x)
  rw [h]; exact ⟨Int.emod_nonneg _ (by omega), Int.emod_lt_of_pos _ hd⟩
theorem own_and (x m : Int32) (hm : 0 ≤ m.toInt) : 0 ≤ (x &&& m).toInt ∧ (x &&& m).toInt ≤ m.toInt := c_and x m hm
theorem own_upto10 (y : Int32) (h0 : 0 ≤ y.toInt) (h1 : y.toInt < 10) : y = 0 ∨ y = 1 ∨ y = 2 ∨ y = 3 ∨ y = 4 ∨ y = 5 ∨ y = 6 ∨ y = 7 ∨ y = 8 ∨ y = 9 := by
  have h : y.toInt = 0 ∨ y.toInt = 1 ∨ y.toInt = 2 ∨ y.toInt = 3 ∨ y.toInt = 4 ∨ y.toInt = 5 ∨ y.toInt = 6 ∨ y.toInt = 7 ∨ y.toInt = 8 ∨ y.toInt = 9 := by omega
  rcases h with h | h | h | h | h | h | h | h | h | h
  · exact Or.inl (Int32.toInt_inj.mp (h.trans rfl))
  · exact Or.inr (Or.inl (Int32.toInt_inj.mp (h.trans rfl)))
  · exact Or.inr (Or.inr (Or.inl (Int32.toInt_inj.mp (h.trans rfl))))
  · exact Or.inr (Or.inr (Or.inr (Or.inl (Int32.toInt_inj.mp (h.trans rfl)))))
  · exact Or.inr (Or.inr (Or.inr (Or.inr (Or.inl (Int32.toInt_inj.mp (h.trans rfl))))))
  · exact Or.inr (Or.inr (Or.inr (Or.inr (Or.inr (Or.inl (Int32.toInt_inj.mp (h.trans rfl)))))))
  · exact Or.inr (Or.inr (Or.inr (Or.inr (Or.inr (Or.inr (Or.inl (Int32.toInt_inj.mp (h.trans rfl))))))))
  · exact Or.inr (Or.inr (Or.inr (Or.inr (Or.inr (Or.inr (Or.inr (Or.inl (Int32.toInt_inj.mp (h.trans rfl)))))))))
  · exact Or.inr (Or.inr (Or.inr (Or.inr (Or.inr (Or.inr (Or.inr (Or.inr (Or.inl (Int32.toInt_inj.mp (h.trans rfl))))))))))
  · exact Or.inr (Or.inr (Or.inr (Or.inr (Or.inr (Or.inr (Or.inr (Or.inr (Or.inr ((Int32.toInt_inj.mp (h.trans rfl)))))))))))
def own_f1 (p1 : Int32) (s_S : Addr) (s_N : Addr) (s_B : Addr) (s_BOOL : Addr) (s_NULL : Addr) (s_L : Addr) (s_M : Addr) (s_SS : Addr) (s_NS : Addr) (s_BS : Addr) : Addr := (if p1 = (0 : Int32) then s_S else (if p1 = (1 : Int32) then s_N else (if p1 = (2 : Int32) then s_B else (if p1 = (3 : Int32) then s_BOOL else (if p1 = (4 : Int32) then s_NULL else (if p1 = (5 : Int32) then s_L else (if p1 = (6 : Int32) then s_M else (if p1 = (7 : Int32) then s_SS else (if p1 = (8 : Int32) then s_NS else s_BS)))))))))
theorem d1_0 : decode method_2_code 0 = .ok (.iload_n 0, 1) := by decide +kernel
theorem d1_1 : decode method_2_code 1 = .ok (.ifCond .ne 7, 3) := by decide +kernel
theorem d1_4 : decode method_2_code 4 = .ok (.getstatic 7, 3) := by decide +kernel
theorem d1_7 : decode method_2_code 7 = .ok (.areturn, 1) := by decide +kernel
theorem d1_8 : decode method_2_code 8 = .ok (.iload_n 0, 1) := by decide +kernel
theorem d1_9 : decode method_2_code 9 = .ok (.iconst 1, 1) := by decide +kernel
theorem d1_10 : decode method_2_code 10 = .ok (.if_icmp .ne 7, 3) := by decide +kernel
theorem d1_13 : decode method_2_code 13 = .ok (.getstatic 13, 3) := by decide +kernel
theorem d1_16 : decode method_2_code 16 = .ok (.areturn, 1) := by decide +kernel
theorem d1_17 : decode method_2_code 17 = .ok (.iload_n 0, 1) := by decide +kernel
theorem d1_18 : decode method_2_code 18 = .ok (.iconst 2, 1) := by decide +kernel
theorem d1_19 : decode method_2_code 19 = .ok (.if_icmp .ne 7, 3) := by decide +kernel
theorem d1_22 : decode method_2_code 22 = .ok (.getstatic 16, 3) := by decide +kernel
theorem d1_25 : decode method_2_code 25 = .ok (.areturn, 1) := by decide +kernel
theorem d1_26 : decode method_2_code 26 = .ok (.iload_n 0, 1) := by decide +kernel
theorem d1_27 : decode method_2_code 27 = .ok (.iconst 3, 1) := by decide +kernel
theorem d1_28 : decode method_2_code 28 = .ok (.if_icmp .ne 7, 3) := by decide +kernel
theorem d1_31 : decode method_2_code 31 = .ok (.getstatic 19, 3) := by decide +kernel
theorem d1_34 : decode method_2_code 34 = .ok (.areturn, 1) := by decide +kernel
theorem d1_35 : decode method_2_code 35 = .ok (.iload_n 0, 1) := by decide +kernel
theorem d1_36 : decode method_2_code 36 = .ok (.iconst 4, 1) := by decide +kernel
theorem d1_37 : decode method_2_code 37 = .ok (.if_icmp .ne 7, 3) := by decide +kernel
theorem d1_40 : decode method_2_code 40 = .ok (.getstatic 22, 3) := by decide +kernel
theorem d1_43 : decode method_2_code 43 = .ok (.areturn, 1) := by decide +kernel
theorem d1_44 : decode method_2_code 44 = .ok (.iload_n 0, 1) := by decide +kernel
theorem d1_45 : decode method_2_code 45 = .ok (.iconst 5, 1) := by decide +kernel
theorem d1_46 : decode method_2_code 46 = .ok (.if_icmp .ne 7, 3) := by decide +kernel
theorem d1_49 : decode method_2_code 49 = .ok (.getstatic 25, 3) := by decide +kernel
theorem d1_52 : decode method_2_code 52 = .ok (.areturn, 1) := by decide +kernel
theorem d1_53 : decode method_2_code 53 = .ok (.iload_n 0, 1) := by decide +kernel
theorem d1_54 : decode method_2_code 54 = .ok (.bipush 6, 2) := by decide +kernel
theorem d1_56 : decode method_2_code 56 = .ok (.if_icmp .ne 7, 3) := by decide +kernel
theorem d1_59 : decode method_2_code 59 = .ok (.getstatic 28, 3) := by decide +kernel
theorem d1_62 : decode method_2_code 62 = .ok (.areturn, 1) := by decide +kernel
theorem d1_63 : decode method_2_code 63 = .ok (.iload_n 0, 1) := by decide +kernel
theorem d1_64 : decode method_2_code 64 = .ok (.bipush 7, 2) := by decide +kernel
theorem d1_66 : decode method_2_code 66 = .ok (.if_icmp .ne 7, 3) := by decide +kernel
theorem d1_69 : decode method_2_code 69 = .ok (.getstatic 31, 3) := by decide +kernel
theorem d1_72 : decode method_2_code 72 = .ok (.areturn, 1) := by decide +kernel
theorem d1_73 : decode method_2_code 73 = .ok (.iload_n 0, 1) := by decide +kernel
theorem d1_74 : decode method_2_code 74 = .ok (.bipush 8, 2) := by decide +kernel
theorem d1_76 : decode method_2_code 76 = .ok (.if_icmp .ne 7, 3) := by decide +kernel
theorem d1_79 : decode method_2_code 79 = .ok (.getstatic 34, 3) := by decide +kernel
theorem d1_82 : decode method_2_code 82 = .ok (.areturn, 1) := by decide +kernel
theorem d1_83 : decode method_2_code 83 = .ok (.getstatic 37, 3) := by decide +kernel
theorem d1_86 : decode method_2_code 86 = .ok (.areturn, 1) := by decide +kernel
theorem pn_1 : plainName "com/example/vorlage/vorlage/value/AttributeTypeIsKeyTypePinLaw" = true := by first | (simp [plainName, overriddenIn]; done) | decide +kernel
theorem ef_1 (m : MethodId) (x0 : Int32) : entryFrame m #[(.int x0)] 1 = mkF m 0 #[.val (.int x0)] [] := by first | (simp [entryFrame, mkF, argsToLocals, Value.category]; done) | rfl
def Q1 (Z : State) (p1 : Int32) (s_S : Addr) (s_N : Addr) (s_B : Addr) (s_BOOL : Addr) (s_NULL : Addr) (s_L : Addr) (s_M : Addr) (s_SS : Addr) (s_NS : Addr) (s_BS : Addr) (h0 : Heap) (n0 : Nat) (v : Option Value) (h : Heap) (L : List Loc) : Prop := v = some (.ref (own_f1 p1 s_S s_N s_B s_BOOL s_NULL s_L s_M s_SS s_NS s_BS)) ∧ Fr n0 L ∧ h = h0
set_option maxRecDepth 65536 in
set_option maxHeartbeats 40000000 in
theorem rm1 (l : Launch) (Z : State) (a0 : Array Value) (hw : ∀ d ∈ tables_1, d.before a0 Z = true) (ws : List Jvm.Cond) (p1 : Int32) (s_S : Addr) (s_N : Addr) (s_B : Addr) (s_BOOL : Addr) (s_NULL : Addr) (s_L : Addr) (s_M : Addr) (s_SS : Addr) (s_NS : Addr) (s_BS : Addr) (h0 : Heap) (n0 : Nat) (Z0 : n0 ≤ h0.size) (S_S : Sta Z h0 "com/example/vorlage/vorlage/value/AttributeType" "S" "Lcom/example/vorlage/vorlage/value/AttributeType;" (.ref s_S)) (S_N : Sta Z h0 "com/example/vorlage/vorlage/value/AttributeType" "N" "Lcom/example/vorlage/vorlage/value/AttributeType;" (.ref s_N)) (S_B : Sta Z h0 "com/example/vorlage/vorlage/value/AttributeType" "B" "Lcom/example/vorlage/vorlage/value/AttributeType;" (.ref s_B)) (S_BOOL : Sta Z h0 "com/example/vorlage/vorlage/value/AttributeType" "BOOL" "Lcom/example/vorlage/vorlage/value/AttributeType;" (.ref s_BOOL)) (S_NULL : Sta Z h0 "com/example/vorlage/vorlage/value/AttributeType" "NULL" "Lcom/example/vorlage/vorlage/value/AttributeType;" (.ref s_NULL)) (S_L : Sta Z h0 "com/example/vorlage/vorlage/value/AttributeType" "L" "Lcom/example/vorlage/vorlage/value/AttributeType;" (.ref s_L)) (S_M : Sta Z h0 "com/example/vorlage/vorlage/value/AttributeType" "M" "Lcom/example/vorlage/vorlage/value/AttributeType;" (.ref s_M)) (S_SS : Sta Z h0 "com/example/vorlage/vorlage/value/AttributeType" "SS" "Lcom/example/vorlage/vorlage/value/AttributeType;" (.ref s_SS)) (S_NS : Sta Z h0 "com/example/vorlage/vorlage/value/AttributeType" "NS" "Lcom/example/vorlage/vorlage/value/AttributeType;" (.ref s_NS)) (S_BS : Sta Z h0 "com/example/vorlage/vorlage/value/AttributeType" "BS" "Lcom/example/vorlage/vorlage/value/AttributeType;" (.ref s_BS)) :
    MetFree l (⟨"com/example/vorlage/vorlage/value/AttributeTypeIsKeyTypePinLaw", "pick", "(I)Lcom/example/vorlage/vorlage/value/AttributeType;"⟩ : MethodName) (head1 (Jvm.Cond.code (⟨"com/example/vorlage/vorlage/value/AttributeTypeIsKeyTypePinLaw", "pick", "(I)Lcom/example/vorlage/vorlage/value/AttributeType;"⟩ : MethodName) method_2_code 1 (some (.object "com/example/vorlage/vorlage/value/AttributeType")) :: ws) ({ frames := 0, cells := 0, slots := 0, locals := 0 } : Room)) (fun a U => a = #[(.int p1)] ∧ Z.Warmed39 U.vm ∧ U.heap = h0) (fun _ _ _ _ _ => True) (fun _ U o U' => ∃ v L, o = .returned v ∧ Q1 Z p1 s_S s_N s_B s_BOOL s_NULL s_L s_M s_SS s_NS s_BS h0 n0 v U'.heap L ∧ FrameEnd U o U' L ({ frames := 0, cells := 0, slots := 0, locals := 0 } : Room).cells ({ frames := 0, cells := 0, slots := 0, locals := 0 } : Room).slots) := by
  refine MetFree.of_bodySF (plainFor_of_name pn_1) hisR ?_
  intro p e s m args below meth c s₁ Bd hml0 hP hK
  obtain ⟨rfl, hZ, hh⟩ := hP
  have hx := Bd.exec
  have hby := Bd.bytes
  have hml : c.maxLocals = 1 := hml0
  have hown : s.vm.findClass "com/example/vorlage/vorlage/value/AttributeTypeIsKeyTypePinLaw" = some m.cls := findClass_of_methodNamed Bd.named
  have hnm := (name_of_methodNamed Bd.named Bd.method).1
  have X0 : Stand p l e ({ frames := 0, cells := 0, slots := 0, locals := 0 } : Room) s m #[(.int p1)] below meth c s₁ [] 0 0 := Stand.of_body Bd
  have e0 : s₁.heap = h0 := by rw [← hh, Bd.state]; rfl
  have N0 := Fr.nil n0
  have pre0 : ∀ t, Steps p.tables e below (s₁.setTop (mkF m 0 #[.val (.int p1)] [])) t → Steps p.tables e below (s₁.setTop (entryFrame m #[(.int p1)] 1)) t := fun t k => castTop (ef_1 m p1) k
  have pr3 : ∀ t, Steps p.tables e below (s₁.setTop (mkF m 1 #[.val (.int p1)] [(.int p1)])) t → Steps p.tables e below (s₁.setTop (entryFrame m #[(.int p1)] 1)) t := by
    intro t k
    refine pre0 t ?_
    show Steps p.tables e below (s₁.setTop (mkF m 0 #[.val (.int p1)] [])) _
    refine XS.iloadN X0.here hx rfl (hb hby d1_0) rfl ?_
    show Steps p.tables e below (s₁.setTop (mkF m 1 #[.val (.int p1)] [(.int p1)])) _
    exact k
  by_cases hc2 : p1 = (0 : Int32)
  · obtain ⟨T4, X4, e4, st4⟩ := getS2 X0 hx hZ hown (host := "") (Or.inl (hw _ (List.mem_of_getElem? (i := 5) rfl))) Via.refl e0 S_S (g := (mkF m 4 #[.val (.int p1)] [])) rfl (hb hby d1_4)
    obtain ⟨fs, hr, hrun, hended, hW, hsame⟩ := X4.leave (v := some (.ref s_S)) (fun h => by rw [Bd.returns] at h; cases h)
    refine ⟨_, _, pr3 _ ?_, hrun, hended, _, _, rfl, ?_, ⟨_, rfl⟩, hW, hsame.mono (by decide) (by decide)⟩
    · show Steps p.tables e below (s₁.setTop (mkF m 1 #[.val (.int p1)] [(.int p1)])) _
      refine XS.ifNo X0.here hx rfl (hb hby d1_1) rfl ((if0 _ _).trans (teq hc2).2) ?_
      show Steps p.tables e below (s₁.setTop (mkF m 4 #[.val (.int p1)] [])) _
      refine st4 _ ?_
      show Steps p.tables e below (T4.setTop (mkF m 7 #[.val (.int p1)] [(.ref s_S)])) _
      exact retOut X4 hx Bd.returns rfl (Or.inr (Or.inr (Or.inr (Or.inr ⟨rfl, rfl, rfl⟩)))) (hb hby d1_7) hr
    · show Q1 Z p1 s_S s_N s_B s_BOOL s_NULL s_L s_M s_SS s_NS s_BS h0 n0 _ T4.heap _
      rw [e4]
      exact ⟨(by rw [show (own_f1 p1 s_S s_N s_B s_BOOL s_NULL s_L s_M s_SS s_NS s_BS) = s_S from by unfold own_f1; rw [if_pos hc2]]), N0, rfl⟩
  · have pr6 : ∀ t, Steps p.tables e below (s₁.setTop (mkF m 10 #[.val (.int p1)] [(.int (1 : Int32)), (.int p1)])) t → Steps p.tables e below (s₁.setTop (entryFrame m #[(.int p1)] 1)) t := by
      intro t k
      refine pr3 t ?_
      show Steps p.tables e below (s₁.setTop (mkF m 1 #[.val (.int p1)] [(.int p1)])) _
      refine XS.ifYes X0.here hx rfl (pc0 := 1) (pc' := 8) rfl (hb hby d1_1) rfl ((if0 _ _).trans (feq hc2).2) (by decide) (by decide) ?_
      show Steps p.tables e below (s₁.setTop (mkF m 8 #[.val (.int p1)] [])) _
      refine XS.iloadN X0.here hx rfl (hb hby d1_8) rfl ?_
      show Steps p.tables e below (s₁.setTop (mkF m 9 #[.val (.int p1)] [(.int p1)])) _
      refine XS.iconst X0.here hx rfl (hb hby d1_9) ?_
      show Steps p.tables e below (s₁.setTop (mkF m 10 #[.val (.int p1)] [(.int (1 : Int32)), (.int p1)])) _
      exact k
    by_cases hc5 : p1 = (1 : Int32)
    · obtain ⟨T7, X7, e7, st7⟩ := getS2 X0 hx hZ hown (host := "") (Or.inl (hw _ (List.mem_of_getElem? (i := 23) rfl))) Via.refl e0 S_N (g := (mkF m 13 #[.val (.int p1)] [])) rfl (hb hby d1_13)
      obtain ⟨fs, hr, hrun, hended, hW, hsame⟩ := X7.leave (v := some (.ref s_N)) (fun h => by rw [Bd.returns] at h; cases h)
      refine ⟨_, _, pr6 _ ?_, hrun, hended, _, _, rfl, ?_, ⟨_, rfl⟩, hW, hsame.mono (by decide) (by decide)⟩
      · show Steps p.tables e below (s₁.setTop (mkF m 10 #[.val (.int p1)] [(.int (1 : Int32)), (.int p1)])) _
        refine XS.icmpNo X0.here hx rfl (hb hby d1_10) rfl (teq hc5).2 ?_
        show Steps p.tables e below (s₁.setTop (mkF m 13 #[.val (.int p1)] [])) _
        refine st7 _ ?_
        show Steps p.tables e below (T7.setTop (mkF m 16 #[.val (.int p1)] [(.ref s_N)])) _
        exact retOut X7 hx Bd.returns rfl (Or.inr (Or.inr (Or.inr (Or.inr ⟨rfl, rfl, rfl⟩)))) (hb hby d1_16) hr
      · show Q1 Z p1 s_S s_N s_B s_BOOL s_NULL s_L s_M s_SS s_NS s_BS h0 n0 _ T7.heap _
        rw [e7]
        exact ⟨(by rw [show (own_f1 p1 s_S s_N s_B s_BOOL s_NULL s_L s_M s_SS s_NS s_BS) = s_N from by unfold own_f1; rw [if_neg hc2, if_pos hc5]]), N0, rfl⟩
    · have pr9 : ∀ t, Steps p.tables e below (s₁.setTop (mkF m 19 #[.val (.int p1)] [(.int (2 : Int32)), (.int p1)])) t → Steps p.tables e below (s₁.setTop (entryFrame m #[(.int p1)] 1)) t := by
        intro t k
        refine pr6 t ?_
        show Steps p.tables e below (s₁.setTop (mkF m 10 #[.val (.int p1)] [(.int (1 : Int32)), (.int p1)])) _
        refine XS.icmpYes X0.here hx rfl (pc0 := 10) (pc' := 17) rfl (hb hby d1_10) rfl (feq hc5).2 (by decide) (by decide) ?_
        show Steps p.tables e below (s₁.setTop (mkF m 17 #[.val (.int p1)] [])) _
        refine XS.iloadN X0.here hx rfl (hb hby d1_17) rfl ?_
        show Steps p.tables e below (s₁.setTop (mkF m 18 #[.val (.int p1)] [(.int p1)])) _
        refine XS.iconst X0.here hx rfl (hb hby d1_18) ?_
        show Steps p.tables e below (s₁.setTop (mkF m 19 #[.val (.int p1)] [(.int (2 : Int32)), (.int p1)])) _
        exact k
      by_cases hc8 : p1 = (2 : Int32)
      · obtain ⟨T10, X10, e10, st10⟩ := getS2 X0 hx hZ hown (host := "") (Or.inl (hw _ (List.mem_of_getElem? (i := 28) rfl))) Via.refl e0 S_B (g := (mkF m 22 #[.val (.int p1)] [])) rfl (hb hby d1_22)
        obtain ⟨fs, hr, hrun, hended, hW, hsame⟩ := X10.leave (v := some (.ref s_B)) (fun h => by rw [Bd.returns] at h; cases h)
        refine ⟨_, _, pr9 _ ?_, hrun, hended, _, _, rfl, ?_, ⟨_, rfl⟩, hW, hsame.mono (by decide) (by decide)⟩
        · show Steps p.tables e below (s₁.setTop (mkF m 19 #[.val (.int p1)] [(.int (2 : Int32)), (.int p1)])) _
          refine XS.icmpNo X0.here hx rfl (hb hby d1_19) rfl (teq hc8).2 ?_
          show Steps p.tables e below (s₁.setTop (mkF m 22 #[.val (.int p1)] [])) _
          refine st10 _ ?_
          show Steps p.tables e below (T10.setTop (mkF m 25 #[.val (.int p1)] [(.ref s_B)])) _
          exact retOut X10 hx Bd.returns rfl (Or.inr (Or.inr (Or.inr (Or.inr ⟨rfl, rfl, rfl⟩)))) (hb hby d1_25) hr
        · show Q1 Z p1 s_S s_N s_B s_BOOL s_NULL s_L s_M s_SS s_NS s_BS h0 n0 _ T10.heap _
          rw [e10]
          exact ⟨(by rw [show (own_f1 p1 s_S s_N s_B s_BOOL s_NULL s_L s_M s_SS s_NS s_BS) = s_B from by unfold own_f1; rw [if_neg hc2, if_neg hc5, if_pos hc8]]), N0, rfl⟩
      · have pr12 : ∀ t, Steps p.tables e below (s₁.setTop (mkF m 28 #[.val (.int p1)] [(.int (3 : Int32)), (.int p1)])) t → Steps p.tables e below (s₁.setTop (entryFrame m #[(.int p1)] 1)) t := by
          intro t k
          refine pr9 t ?_
          show Steps p.tables e below (s₁.setTop (mkF m 19 #[.val (.int p1)] [(.int (2 : Int32)), (.int p1)])) _
          refine XS.icmpYes X0.here hx rfl (pc0 := 19) (pc' := 26) rfl (hb hby d1_19) rfl (feq hc8).2 (by decide) (by decide) ?_
          show Steps p.tables e below (s₁.setTop (mkF m 26 #[.val (.int p1)] [])) _
          refine XS.iloadN X0.here hx rfl (hb hby d1_26) rfl ?_
          show Steps p.tables e below (s₁.setTop (mkF m 27 #[.val (.int p1)] [(.int p1)])) _
          refine XS.iconst X0.here hx rfl (hb hby d1_27) ?_
          show Steps p.tables e below (s₁.setTop (mkF m 28 #[.val (.int p1)] [(.int (3 : Int32)), (.int p1)])) _
          exact k
        by_cases hc11 : p1 = (3 : Int32)
        · obtain ⟨T13, X13, e13, st13⟩ := getS2 X0 hx hZ hown (host := "") (Or.inl (hw _ (List.mem_of_getElem? (i := 17) rfl))) Via.refl e0 S_BOOL (g := (mkF m 31 #[.val (.int p1)] [])) rfl (hb hby d1_31)
          obtain ⟨fs, hr, hrun, hended, hW, hsame⟩ := X13.leave (v := some (.ref s_BOOL)) (fun h => by rw [Bd.returns] at h; cases h)
          refine ⟨_, _, pr12 _ ?_, hrun, hended, _, _, rfl, ?_, ⟨_, rfl⟩, hW, hsame.mono (by decide) (by decide)⟩
          · show Steps p.tables e below (s₁.setTop (mkF m 28 #[.val (.int p1)] [(.int (3 : Int32)), (.int p1)])) _
            refine XS.icmpNo X0.here hx rfl (hb hby d1_28) rfl (teq hc11).2 ?_
            show Steps p.tables e below (s₁.setTop (mkF m 31 #[.val (.int p1)] [])) _
            refine st13 _ ?_
            show Steps p.tables e below (T13.setTop (mkF m 34 #[.val (.int p1)] [(.ref s_BOOL)])) _
            exact retOut X13 hx Bd.returns rfl (Or.inr (Or.inr (Or.inr (Or.inr ⟨rfl, rfl, rfl⟩)))) (hb hby d1_34) hr
          · show Q1 Z p1 s_S s_N s_B s_BOOL s_NULL s_L s_M s_SS s_NS s_BS h0 n0 _ T13.heap _
            rw [e13]
            exact ⟨(by rw [show (own_f1 p1 s_S s_N s_B s_BOOL s_NULL s_L s_M s_SS s_NS s_BS) = s_BOOL from by unfold own_f1; rw [if_neg hc2, if_neg hc5, if_neg hc8, if_pos hc11]]), N0, rfl⟩
        · have pr15 : ∀ t, Steps p.tables e below (s₁.setTop (mkF m 37 #[.val (.int p1)] [(.int (4 : Int32)), (.int p1)])) t → Steps p.tables e below (s₁.setTop (entryFrame m #[(.int p1)] 1)) t := by
            intro t k
            refine pr12 t ?_
            show Steps p.tables e below (s₁.setTop (mkF m 28 #[.val (.int p1)] [(.int (3 : Int32)), (.int p1)])) _
            refine XS.icmpYes X0.here hx rfl (pc0 := 28) (pc' := 35) rfl (hb hby d1_28) rfl (feq hc11).2 (by decide) (by decide) ?_
            show Steps p.tables e below (s₁.setTop (mkF m 35 #[.val (.int p1)] [])) _
            refine XS.iloadN X0.here hx rfl (hb hby d1_35) rfl ?_
            show Steps p.tables e below (s₁.setTop (mkF m 36 #[.val (.int p1)] [(.int p1)])) _
            refine XS.iconst X0.here hx rfl (hb hby d1_36) ?_
            show Steps p.tables e below (s₁.setTop (mkF m 37 #[.val (.int p1)] [(.int (4 : Int32)), (.int p1)])) _
            exact k
          by_cases hc14 : p1 = (4 : Int32)
          · obtain ⟨T16, X16, e16, st16⟩ := getS2 X0 hx hZ hown (host := "") (Or.inl (hw _ (List.mem_of_getElem? (i := 24) rfl))) Via.refl e0 S_NULL (g := (mkF m 40 #[.val (.int p1)] [])) rfl (hb hby d1_40)
            obtain ⟨fs, hr, hrun, hended, hW, hsame⟩ := X16.leave (v := some (.ref s_NULL)) (fun h => by rw [Bd.returns] at h; cases h)
            refine ⟨_, _, pr15 _ ?_, hrun, hended, _, _, rfl, ?_, ⟨_, rfl⟩, hW, hsame.mono (by decide) (by decide)⟩
            · show Steps p.tables e below (s₁.setTop (mkF m 37 #[.val (.int p1)] [(.int (4 : Int32)), (.int p1)])) _
              refine XS.icmpNo X0.here hx rfl (hb hby d1_37) rfl (teq hc14).2 ?_
              show Steps p.tables e below (s₁.setTop (mkF m 40 #[.val (.int p1)] [])) _
              refine st16 _ ?_
              show Steps p.tables e below (T16.setTop (mkF m 43 #[.val (.int p1)] [(.ref s_NULL)])) _
              exact retOut X16 hx Bd.returns rfl (Or.inr (Or.inr (Or.inr (Or.inr ⟨rfl, rfl, rfl⟩)))) (hb hby d1_43) hr
            · show Q1 Z p1 s_S s_N s_B s_BOOL s_NULL s_L s_M s_SS s_NS s_BS h0 n0 _ T16.heap _
              rw [e16]
              exact ⟨(by rw [show (own_f1 p1 s_S s_N s_B s_BOOL s_NULL s_L s_M s_SS s_NS s_BS) = s_NULL from by unfold own_f1; rw [if_neg hc2, if_neg hc5, if_neg hc8, if_neg hc11, if_pos hc14]]), N0, rfl⟩
          · have pr18 : ∀ t, Steps p.tables e below (s₁.setTop (mkF m 46 #[.val (.int p1)] [(.int (5 : Int32)), (.int p1)])) t → Steps p.tables e below (s₁.setTop (entryFrame m #[(.int p1)] 1)) t := by
              intro t k
              refine pr15 t ?_
              show Steps p.tables e below (s₁.setTop (mkF m 37 #[.val (.int p1)] [(.int (4 : Int32)), (.int p1)])) _
              refine XS.icmpYes X0.here hx rfl (pc0 := 37) (pc' := 44) rfl (hb hby d1_37) rfl (feq hc14).2 (by decide) (by decide) ?_
              show Steps p.tables e below (s₁.setTop (mkF m 44 #[.val (.int p1)] [])) _
              refine XS.iloadN X0.here hx rfl (hb hby d1_44) rfl ?_
              show Steps p.tables e below (s₁.setTop (mkF m 45 #[.val (.int p1)] [(.int p1)])) _
              refine XS.iconst X0.here hx rfl (hb hby d1_45) ?_
              show Steps p.tables e below (s₁.setTop (mkF m 46 #[.val (.int p1)] [(.int (5 : Int32)), (.int p1)])) _
              exact k
            by_cases hc17 : p1 = (5 : Int32)
            · obtain ⟨T19, X19, e19, st19⟩ := getS2 X0 hx hZ hown (host := "") (Or.inl (hw _ (List.mem_of_getElem? (i := 33) rfl))) Via.refl e0 S_L (g := (mkF m 49 #[.val (.int p1)] [])) rfl (hb hby d1_49)
              obtain ⟨fs, hr, hrun, hended, hW, hsame⟩ := X19.leave (v := some (.ref s_L)) (fun h => by rw [Bd.returns] at h; cases h)
              refine ⟨_, _, pr18 _ ?_, hrun, hended, _, _, rfl, ?_, ⟨_, rfl⟩, hW, hsame.mono (by decide) (by decide)⟩
              · show Steps p.tables e below (s₁.setTop (mkF m 46 #[.val (.int p1)] [(.int (5 : Int32)), (.int p1)])) _
                refine XS.icmpNo X0.here hx rfl (hb hby d1_46) rfl (teq hc17).2 ?_
                show Steps p.tables e below (s₁.setTop (mkF m 49 #[.val (.int p1)] [])) _
                refine st19 _ ?_
                show Steps p.tables e below (T19.setTop (mkF m 52 #[.val (.int p1)] [(.ref s_L)])) _
                exact retOut X19 hx Bd.returns rfl (Or.inr (Or.inr (Or.inr (Or.inr ⟨rfl, rfl, rfl⟩)))) (hb hby d1_52) hr
              · show Q1 Z p1 s_S s_N s_B s_BOOL s_NULL s_L s_M s_SS s_NS s_BS h0 n0 _ T19.heap _
                rw [e19]
                exact ⟨(by rw [show (own_f1 p1 s_S s_N s_B s_BOOL s_NULL s_L s_M s_SS s_NS s_BS) = s_L from by unfold own_f1; rw [if_neg hc2, if_neg hc5, if_neg hc8, if_neg hc11, if_neg hc14, if_pos hc17]]), N0, rfl⟩
            · have pr21 : ∀ t, Steps p.tables e below (s₁.setTop (mkF m 56 #[.val (.int p1)] [(.int (6 : Int32)), (.int p1)])) t → Steps p.tables e below (s₁.setTop (entryFrame m #[(.int p1)] 1)) t := by
                intro t k
                refine pr18 t ?_
                show Steps p.tables e below (s₁.setTop (mkF m 46 #[.val (.int p1)] [(.int (5 : Int32)), (.int p1)])) _
                refine XS.icmpYes X0.here hx rfl (pc0 := 46) (pc' := 53) rfl (hb hby d1_46) rfl (feq hc17).2 (by decide) (by decide) ?_
                show Steps p.tables e below (s₁.setTop (mkF m 53 #[.val (.int p1)] [])) _
                refine XS.iloadN X0.here hx rfl (hb hby d1_53) rfl ?_
                show Steps p.tables e below (s₁.setTop (mkF m 54 #[.val (.int p1)] [(.int p1)])) _
                refine XS.bipush X0.here hx rfl (hb hby d1_54) ?_
                show Steps p.tables e below (s₁.setTop (mkF m 56 #[.val (.int p1)] [(.int (6 : Int32)), (.int p1)])) _
                exact k
              by_cases hc20 : p1 = (6 : Int32)
              · obtain ⟨T22, X22, e22, st22⟩ := getS2 X0 hx hZ hown (host := "") (Or.inl (hw _ (List.mem_of_getElem? (i := 35) rfl))) Via.refl e0 S_M (g := (mkF m 59 #[.val (.int p1)] [])) rfl (hb hby d1_59)
                obtain ⟨fs, hr, hrun, hended, hW, hsame⟩ := X22.leave (v := some (.ref s_M)) (fun h => by rw [Bd.returns] at h; cases h)
                refine ⟨_, _, pr21 _ ?_, hrun, hended, _, _, rfl, ?_, ⟨_, rfl⟩, hW, hsame.mono (by decide) (by decide)⟩
                · show Steps p.tables e below (s₁.setTop (mkF m 56 #[.val (.int p1)] [(.int (6 : Int32)), (.int p1)])) _
                  refine XS.icmpNo X0.here hx rfl (hb hby d1_56) rfl (teq hc20).2 ?_
                  show Steps p.tables e below (s₁.setTop (mkF m 59 #[.val (.int p1)] [])) _
                  refine st22 _ ?_
                  show Steps p.tables e below (T22.setTop (mkF m 62 #[.val (.int p1)] [(.ref s_M)])) _
                  exact retOut X22 hx Bd.returns rfl (Or.inr (Or.inr (Or.inr (Or.inr ⟨rfl, rfl, rfl⟩)))) (hb hby d1_62) hr
                · show Q1 Z p1 s_S s_N s_B s_BOOL s_NULL s_L s_M s_SS s_NS s_BS h0 n0 _ T22.heap _
                  rw [e22]
                  exact ⟨(by rw [show (own_f1 p1 s_S s_N s_B s_BOOL s_NULL s_L s_M s_SS s_NS s_BS) = s_M from by unfold own_f1; rw [if_neg hc2, if_neg hc5, if_neg hc8, if_neg hc11, if_neg hc14, if_neg hc17, if_pos hc20]]), N0, rfl⟩
              · have pr24 : ∀ t, Steps p.tables e below (s₁.setTop (mkF m 66 #[.val (.int p1)] [(.int (7 : Int32)), (.int p1)])) t → Steps p.tables e below (s₁.setTop (entryFrame m #[(.int p1)] 1)) t := by
                  intro t k
                  refine pr21 t ?_
                  show Steps p.tables e below (s₁.setTop (mkF m 56 #[.val (.int p1)] [(.int (6 : Int32)), (.int p1)])) _
                  refine XS.icmpYes X0.here hx rfl (pc0 := 56) (pc' := 63) rfl (hb hby d1_56) rfl (feq hc20).2 (by decide) (by decide) ?_
                  show Steps p.tables e below (s₁.setTop (mkF m 63 #[.val (.int p1)] [])) _
                  refine XS.iloadN X0.here hx rfl (hb hby d1_63) rfl ?_
                  show Steps p.tables e below (s₁.setTop (mkF m 64 #[.val (.int p1)] [(.int p1)])) _
                  refine XS.bipush X0.here hx rfl (hb hby d1_64) ?_
                  show Steps p.tables e below (s₁.setTop (mkF m 66 #[.val (.int p1)] [(.int (7 : Int32)), (.int p1)])) _
                  exact k
                by_cases hc23 : p1 = (7 : Int32)
                · obtain ⟨T25, X25, e25, st25⟩ := getS2 X0 hx hZ hown (host := "") (Or.inl (hw _ (List.mem_of_getElem? (i := 26) rfl))) Via.refl e0 S_SS (g := (mkF m 69 #[.val (.int p1)] [])) rfl (hb hby d1_69)
                  obtain ⟨fs, hr, hrun, hended, hW, hsame⟩ := X25.leave (v := some (.ref s_SS)) (fun h => by rw [Bd.returns] at h; cases h)
                  refine ⟨_, _, pr24 _ ?_, hrun, hended, _, _, rfl, ?_, ⟨_, rfl⟩, hW, hsame.mono (by decide) (by decide)⟩
                  · show Steps p.tables e below (s₁.setTop (mkF m 66 #[.val (.int p1)] [(.int (7 : Int32)), (.int p1)])) _
                    refine XS.icmpNo X0.here hx rfl (hb hby d1_66) rfl (teq hc23).2 ?_
                    show Steps p.tables e below (s₁.setTop (mkF m 69 #[.val (.int p1)] [])) _
                    refine st25 _ ?_
                    show Steps p.tables e below (T25.setTop (mkF m 72 #[.val (.int p1)] [(.ref s_SS)])) _
                    exact retOut X25 hx Bd.returns rfl (Or.inr (Or.inr (Or.inr (Or.inr ⟨rfl, rfl, rfl⟩)))) (hb hby d1_72) hr
                  · show Q1 Z p1 s_S s_N s_B s_BOOL s_NULL s_L s_M s_SS s_NS s_BS h0 n0 _ T25.heap _
                    rw [e25]
                    exact ⟨(by rw [show (own_f1 p1 s_S s_N s_B s_BOOL s_NULL s_L s_M s_SS s_NS s_BS) = s_SS from by unfold own_f1; rw [if_neg hc2, if_neg hc5, if_neg hc8, if_neg hc11, if_neg hc14, if_neg hc17, if_neg hc20, if_pos hc23]]), N0, rfl⟩
                · have pr27 : ∀ t, Steps p.tables e below (s₁.setTop (mkF m 76 #[.val (.int p1)] [(.int (8 : Int32)), (.int p1)])) t → Steps p.tables e below (s₁.setTop (entryFrame m #[(.int p1)] 1)) t := by
                    intro t k
                    refine pr24 t ?_
                    show Steps p.tables e below (s₁.setTop (mkF m 66 #[.val (.int p1)] [(.int (7 : Int32)), (.int p1)])) _
                    refine XS.icmpYes X0.here hx rfl (pc0 := 66) (pc' := 73) rfl (hb hby d1_66) rfl (feq hc23).2 (by decide) (by decide) ?_
                    show Steps p.tables e below (s₁.setTop (mkF m 73 #[.val (.int p1)] [])) _
                    refine XS.iloadN X0.here hx rfl (hb hby d1_73) rfl ?_
                    show Steps p.tables e below (s₁.setTop (mkF m 74 #[.val (.int p1)] [(.int p1)])) _
                    refine XS.bipush X0.here hx rfl (hb hby d1_74) ?_
                    show Steps p.tables e below (s₁.setTop (mkF m 76 #[.val (.int p1)] [(.int (8 : Int32)), (.int p1)])) _
                    exact k
                  by_cases hc26 : p1 = (8 : Int32)
                  · obtain ⟨T28, X28, e28, st28⟩ := getS2 X0 hx hZ hown (host := "") (Or.inl (hw _ (List.mem_of_getElem? (i := 29) rfl))) Via.refl e0 S_NS (g := (mkF m 79 #[.val (.int p1)] [])) rfl (hb hby d1_79)
                    obtain ⟨fs, hr, hrun, hended, hW, hsame⟩ := X28.leave (v := some (.ref s_NS)) (fun h => by rw [Bd.returns] at h; cases h)
                    refine ⟨_, _, pr27 _ ?_, hrun, hended, _, _, rfl, ?_, ⟨_, rfl⟩, hW, hsame.mono (by decide) (by decide)⟩
                    · show Steps p.tables e below (s₁.setTop (mkF m 76 #[.val (.int p1)] [(.int (8 : Int32)), (.int p1)])) _
                      refine XS.icmpNo X0.here hx rfl (hb hby d1_76) rfl (teq hc26).2 ?_
                      show Steps p.tables e below (s₁.setTop (mkF m 79 #[.val (.int p1)] [])) _
                      refine st28 _ ?_
                      show Steps p.tables e below (T28.setTop (mkF m 82 #[.val (.int p1)] [(.ref s_NS)])) _
                      exact retOut X28 hx Bd.returns rfl (Or.inr (Or.inr (Or.inr (Or.inr ⟨rfl, rfl, rfl⟩)))) (hb hby d1_82) hr
                    · show Q1 Z p1 s_S s_N s_B s_BOOL s_NULL s_L s_M s_SS s_NS s_BS h0 n0 _ T28.heap _
                      rw [e28]
                      exact ⟨(by rw [show (own_f1 p1 s_S s_N s_B s_BOOL s_NULL s_L s_M s_SS s_NS s_BS) = s_NS from by unfold own_f1; rw [if_neg hc2, if_neg hc5, if_neg hc8, if_neg hc11, if_neg hc14, if_neg hc17, if_neg hc20, if_neg hc23, if_pos hc26]]), N0, rfl⟩
                  · obtain ⟨T29, X29, e29, st29⟩ := getS2 X0 hx hZ hown (host := "") (Or.inl (hw _ (List.mem_of_getElem? (i := 31) rfl))) Via.refl e0 S_BS (g := (mkF m 83 #[.val (.int p1)] [])) rfl (hb hby d1_83)
                    obtain ⟨fs, hr, hrun, hended, hW, hsame⟩ := X29.leave (v := some (.ref s_BS)) (fun h => by rw [Bd.returns] at h; cases h)
                    refine ⟨_, _, pr27 _ ?_, hrun, hended, _, _, rfl, ?_, ⟨_, rfl⟩, hW, hsame.mono (by decide) (by decide)⟩
                    · show Steps p.tables e below (s₁.setTop (mkF m 76 #[.val (.int p1)] [(.int (8 : Int32)), (.int p1)])) _
                      refine XS.icmpYes X0.here hx rfl (pc0 := 76) (pc' := 83) rfl (hb hby d1_76) rfl (feq hc26).2 (by decide) (by decide) ?_
                      show Steps p.tables e below (s₁.setTop (mkF m 83 #[.val (.int p1)] [])) _
                      refine st29 _ ?_
                      show Steps p.tables e below (T29.setTop (mkF m 86 #[.val (.int p1)] [(.ref s_BS)])) _
                      exact retOut X29 hx Bd.returns rfl (Or.inr (Or.inr (Or.inr (Or.inr ⟨rfl, rfl, rfl⟩)))) (hb hby d1_86) hr
                    · show Q1 Z p1 s_S s_N s_B s_BOOL s_NULL s_L s_M s_SS s_NS s_BS h0 n0 _ T29.heap _
                      rw [e29]
                      exact ⟨(by rw [show (own_f1 p1 s_S s_N s_B s_BOOL s_NULL s_L s_M s_SS s_NS s_BS) = s_BS from by unfold own_f1; rw [if_neg hc2, if_neg hc5, if_neg hc8, if_neg hc11, if_neg hc14, if_neg hc17, if_neg hc20, if_neg hc23, if_neg hc26]]), N0, rfl⟩
def own_f2 (a1 : Addr) (s_S : Addr) (s_N : Addr) (s_B : Addr) : Int32 := (if a1 = s_S then (1 : Int32) else (if a1 = s_N then (1 : Int32) else (if a1 = s_B then (1 : Int32) else (0 : Int32))))
theorem d2_0 : decode prog_44_method_4_code 0 = .ok (.aload_n 0, 1) := by decide +kernel
theorem d2_1 : decode prog_44_method_4_code 1 = .ok (.getstatic 3, 3) := by decide +kernel
theorem d2_4 : decode prog_44_method_4_code 4 = .ok (.if_acmp .eq 17, 3) := by decide +kernel
theorem d2_7 : decode prog_44_method_4_code 7 = .ok (.aload_n 0, 1) := by decide +kernel
theorem d2_8 : decode prog_44_method_4_code 8 = .ok (.getstatic 7, 3) := by decide +kernel
theorem d2_11 : decode prog_44_method_4_code 11 = .ok (.if_acmp .eq 10, 3) := by decide +kernel
theorem d2_14 : decode prog_44_method_4_code 14 = .ok (.aload_n 0, 1) := by decide +kernel
theorem d2_15 : decode prog_44_method_4_code 15 = .ok (.getstatic 10, 3) := by decide +kernel
theorem d2_18 : decode prog_44_method_4_code 18 = .ok (.if_acmp .ne 7, 3) := by decide +kernel
theorem d2_21 : decode prog_44_method_4_code 21 = .ok (.iconst 1, 1) := by decide +kernel
theorem d2_22 : decode prog_44_method_4_code 22 = .ok (.goto 4, 3) := by decide +kernel
theorem d2_25 : decode prog_44_method_4_code 25 = .ok (.iconst 0, 1) := by decide +kernel
theorem d2_26 : decode prog_44_method_4_code 26 = .ok (.ireturn, 1) := by decide +kernel
theorem pn_2 : plainName "com/example/vorlage/vorlage/value/AttributeType" = true := by first | (simp [plainName, overriddenIn]; done) | decide +kernel
theorem ef_2 (m : MethodId) (x0 : Addr) : entryFrame m #[(.ref x0)] 1 = mkF m 0 #[.val (.ref x0)] [] := by first | (simp [entryFrame, mkF, argsToLocals, Value.category]; done) | rfl
def Q2 (Z : State) (a1 : Addr) (s_S : Addr) (s_N : Addr) (s_B : Addr) (h0 : Heap) (n0 : Nat) (v : Option Value) (h : Heap) (L : List Loc) : Prop := v = some (.int (own_f2 a1 s_S s_N s_B)) ∧ Fr n0 L ∧ h = h0
set_option maxRecDepth 65536 in
set_option maxHeartbeats 40000000 in
theorem rm2 (l : Launch) (Z : State) (a0 : Array Value) (hw : ∀ d ∈ tables_1, d.before a0 Z = true) (ws : List Jvm.Cond) (a1 : Addr) (s_S : Addr) (s_N : Addr) (s_B : Addr) (h0 : Heap) (n0 : Nat) (Z0 : n0 ≤ h0.size) (S_S : Sta Z h0 "com/example/vorlage/vorlage/value/AttributeType" "S" "Lcom/example/vorlage/vorlage/value/AttributeType;" (.ref s_S)) (S_N : Sta Z h0 "com/example/vorlage/vorlage/value/AttributeType" "N" "Lcom/example/vorlage/vorlage/value/AttributeType;" (.ref s_N)) (S_B : Sta Z h0 "com/example/vorlage/vorlage/value/AttributeType" "B" "Lcom/example/vorlage/vorlage/value/AttributeType;" (.ref s_B)) :
    MetFree l (⟨"com/example/vorlage/vorlage/value/AttributeType", "isKeyType", "()Z"⟩ : MethodName) (head1 (Jvm.Cond.code (⟨"com/example/vorlage/vorlage/value/AttributeType", "isKeyType", "()Z"⟩ : MethodName) prog_44_method_4_code 1 (some .boolean) :: ws) ({ frames := 0, cells := 0, slots := 0, locals := 0 } : Room)) (fun a U => a = #[(.ref a1)] ∧ Z.Warmed39 U.vm ∧ U.heap = h0) (fun _ _ _ _ _ => True) (fun _ U o U' => ∃ v L, o = .returned v ∧ Q2 Z a1 s_S s_N s_B h0 n0 v U'.heap L ∧ FrameEnd U o U' L ({ frames := 0, cells := 0, slots := 0, locals := 0 } : Room).cells ({ frames := 0, cells := 0, slots := 0, locals := 0 } : Room).slots) := by
  refine MetFree.of_bodySF (plainFor_of_name pn_2) hisR ?_
  intro p e s m args below meth c s₁ Bd hml0 hP hK
  obtain ⟨rfl, hZ, hh⟩ := hP
  have hx := Bd.exec
  have hby := Bd.bytes
  have hml : c.maxLocals = 1 := hml0
  have hown : s.vm.findClass "com/example/vorlage/vorlage/value/AttributeType" = some m.cls := findClass_of_methodNamed Bd.named
  have hnm := (name_of_methodNamed Bd.named Bd.method).1
  have X0 : Stand p l e ({ frames := 0, cells := 0, slots := 0, locals := 0 } : Room) s m #[(.ref a1)] below meth c s₁ [] 0 0 := Stand.of_body Bd
  have e0 : s₁.heap = h0 := by rw [← hh, Bd.state]; rfl
  have N0 := Fr.nil n0
  have pre0 : ∀ t, Steps p.tables e below (s₁.setTop (mkF m 0 #[.val (.ref a1)] [])) t → Steps p.tables e below (s₁.setTop (entryFrame m #[(.ref a1)] 1)) t := fun t k => castTop (ef_2 m a1) k
  obtain ⟨T2, X2, e2, st2⟩ := getS2 X0 hx hZ hown (host := "") (Or.inl (hw _ (List.mem_of_getElem? (i := 13) rfl))) Via.refl e0 S_S (g := (mkF m 1 #[.val (.ref a1)] [(.ref a1)])) rfl (hb hby d2_1)
  have pr4 : ∀ t, Steps p.tables e below (T2.setTop (mkF m 4 #[.val (.ref a1)] [(.ref s_S), (.ref a1)])) t → Steps p.tables e below (s₁.setTop (entryFrame m #[(.ref a1)] 1)) t := by
    intro t k
    refine pre0 t ?_
    show Steps p.tables e below (s₁.setTop (mkF m 0 #[.val (.ref a1)] [])) _
    refine XS.aloadN X0.here hx rfl (hb hby d2_0) rfl rfl ?_
    show Steps p.tables e below (s₁.setTop (mkF m 1 #[.val (.ref a1)] [(.ref a1)])) _
    refine st2 _ ?_
    show Steps p.tables e below (T2.setTop (mkF m 4 #[.val (.ref a1)] [(.ref s_S), (.ref a1)])) _
    exact k
  by_cases hc3 : a1 = s_S
  · obtain ⟨fs, hr, hrun, hended, hW, hsame⟩ := X2.leave (v := some (.int (1 : Int32))) (fun h => by rw [Bd.returns] at h; cases h)
    refine ⟨_, _, pr4 _ ?_, hrun, hended, _, _, rfl, ?_, ⟨_, rfl⟩, hW, hsame.mono (by decide) (by decide)⟩
    · show Steps p.tables e below (T2.setTop (mkF m 4 #[.val (.ref a1)] [(.ref s_S), (.ref a1)])) _
      refine Jvm.RoadKit.acmp (g := (mkF m 4 #[.val (.ref a1)] [(.ref s_S), (.ref a1)])) X2 hx rfl rfl rfl (pc0 := 4) (pc' := 21) (same := true) rfl (hb hby d2_4) rfl (decide_eq_true (congrArg Value.ref hc3)) (by decide) (by decide) ?_
      show Steps p.tables e below (T2.setTop (mkF m 21 #[.val (.ref a1)] [])) _
      refine XS.iconst X2.here hx rfl (hb hby d2_21) ?_
      show Steps p.tables e below (T2.setTop (mkF m 22 #[.val (.ref a1)] [(.int (1 : Int32))])) _
      refine XS.goto X2.here hx rfl (pc0 := 22) (pc' := 26) rfl (hb hby d2_22) (by decide) (by decide) ?_
      show Steps p.tables e below (T2.setTop (mkF m 26 #[.val (.ref a1)] [(.int (1 : Int32))])) _
      exact retN X2 hx (t := .boolean) Bd.returns (by simp) (hb hby d2_26) hr
    · show Q2 Z a1 s_S s_N s_B h0 n0 _ T2.heap _
      rw [e2]
      exact ⟨(by rw [show (own_f2 a1 s_S s_N s_B) = (1 : Int32) from by unfold own_f2; rw [if_pos hc3]]), N0, rfl⟩
  · obtain ⟨T5, X5, e5, st5⟩ := getS2 X2 hx hZ hown (host := "") (Or.inl (hw _ (List.mem_of_getElem? (i := 19) rfl))) Via.refl e2 S_N (g := (mkF m 8 #[.val (.ref a1)] [(.ref a1)])) rfl (hb hby d2_8)
    have pr7 : ∀ t, Steps p.tables e below (T5.setTop (mkF m 11 #[.val (.ref a1)] [(.ref s_N), (.ref a1)])) t → Steps p.tables e below (s₁.setTop (entryFrame m #[(.ref a1)] 1)) t := by
      intro t k
      refine pr4 t ?_
      show Steps p.tables e below (T2.setTop (mkF m 4 #[.val (.ref a1)] [(.ref s_S), (.ref a1)])) _
      refine Jvm.RoadKit.acmp (g := (mkF m 4 #[.val (.ref a1)] [(.ref s_S), (.ref a1)])) X2 hx rfl rfl rfl (pc0 := 4) (pc' := 7) (same := false) rfl (hb hby d2_4) rfl (decide_eq_false fun q => hc3 (Value.ref.inj q)) (by decide) (by decide) ?_
      show Steps p.tables e below (T2.setTop (mkF m 7 #[.val (.ref a1)] [])) _
      refine XS.aloadN X2.here hx rfl (hb hby d2_7) rfl rfl ?_
      show Steps p.tables e below (T2.setTop (mkF m 8 #[.val (.ref a1)] [(.ref a1)])) _
      refine st5 _ ?_
      show Steps p.tables e below (T5.setTop (mkF m 11 #[.val (.ref a1)] [(.ref s_N), (.ref a1)])) _
      exact k
    by_cases hc6 : a1 = s_N
    · obtain ⟨fs, hr, hrun, hended, hW, hsame⟩ := X5.leave (v := some (.int (1 : Int32))) (fun h => by rw [Bd.returns] at h; cases h)
      refine ⟨_, _, pr7 _ ?_, hrun, hended, _, _, rfl, ?_, ⟨_, rfl⟩, hW, hsame.mono (by decide) (by decide)⟩
      · show Steps p.tables e below (T5.setTop (mkF m 11 #[.val (.ref a1)] [(.ref s_N), (.ref a1)])) _
        refine Jvm.RoadKit.acmp (g := (mkF m 11 #[.val (.ref a1)] [(.ref s_N), (.ref a1)])) X5 hx rfl rfl rfl (pc0 := 11) (pc' := 21) (same := true) rfl (hb hby d2_11) rfl (decide_eq_true (congrArg Value.ref hc6)) (by decide) (by decide) ?_
        show Steps p.tables e below (T5.setTop (mkF m 21 #[.val (.ref a1)] [])) _
        refine XS.iconst X5.here hx rfl (hb hby d2_21) ?_
        show Steps p.tables e below (T5.setTop (mkF m 22 #[.val (.ref a1)] [(.int (1 : Int32))])) _
        refine XS.goto X5.here hx rfl (pc0 := 22) (pc' := 26) rfl (hb hby d2_22) (by decide) (by decide) ?_
        show Steps p.tables e below (T5.setTop (mkF m 26 #[.val (.ref a1)] [(.int (1 : Int32))])) _
        exact retN X5 hx (t := .boolean) Bd.returns (by simp) (hb hby d2_26) hr
      · show Q2 Z a1 s_S s_N s_B h0 n0 _ T5.heap _
        rw [e5]
        exact ⟨(by rw [show (own_f2 a1 s_S s_N s_B) = (1 : Int32) from by unfold own_f2; rw [if_neg hc3, if_pos hc6]]), N0, rfl⟩
    · obtain ⟨T8, X8, e8, st8⟩ := getS2 X5 hx hZ hown (host := "") (Or.inl (hw _ (List.mem_of_getElem? (i := 21) rfl))) Via.refl e5 S_B (g := (mkF m 15 #[.val (.ref a1)] [(.ref a1)])) rfl (hb hby d2_15)
      have pr10 : ∀ t, Steps p.tables e below (T8.setTop (mkF m 18 #[.val (.ref a1)] [(.ref s_B), (.ref a1)])) t → Steps p.tables e below (s₁.setTop (entryFrame m #[(.ref a1)] 1)) t := by
        intro t k
        refine pr7 t ?_
        show Steps p.tables e below (T5.setTop (mkF m 11 #[.val (.ref a1)] [(.ref s_N), (.ref a1)])) _
        refine Jvm.RoadKit.acmp (g := (mkF m 11 #[.val (.ref a1)] [(.ref s_N), (.ref a1)])) X5 hx rfl rfl rfl (pc0 := 11) (pc' := 14) (same := false) rfl (hb hby d2_11) rfl (decide_eq_false fun q => hc6 (Value.ref.inj q)) (by decide) (by decide) ?_
        show Steps p.tables e below (T5.setTop (mkF m 14 #[.val (.ref a1)] [])) _
        refine XS.aloadN X5.here hx rfl (hb hby d2_14) rfl rfl ?_
        show Steps p.tables e below (T5.setTop (mkF m 15 #[.val (.ref a1)] [(.ref a1)])) _
        refine st8 _ ?_
        show Steps p.tables e below (T8.setTop (mkF m 18 #[.val (.ref a1)] [(.ref s_B), (.ref a1)])) _
        exact k
      by_cases hc9 : a1 = s_B
      · obtain ⟨fs, hr, hrun, hended, hW, hsame⟩ := X8.leave (v := some (.int (1 : Int32))) (fun h => by rw [Bd.returns] at h; cases h)
        refine ⟨_, _, pr10 _ ?_, hrun, hended, _, _, rfl, ?_, ⟨_, rfl⟩, hW, hsame.mono (by decide) (by decide)⟩
        · show Steps p.tables e below (T8.setTop (mkF m 18 #[.val (.ref a1)] [(.ref s_B), (.ref a1)])) _
          refine Jvm.RoadKit.acmp (g := (mkF m 18 #[.val (.ref a1)] [(.ref s_B), (.ref a1)])) X8 hx rfl rfl rfl (pc0 := 18) (pc' := 21) (same := true) rfl (hb hby d2_18) rfl (decide_eq_true (congrArg Value.ref hc9)) (by decide) (by decide) ?_
          show Steps p.tables e below (T8.setTop (mkF m 21 #[.val (.ref a1)] [])) _
          refine XS.iconst X8.here hx rfl (hb hby d2_21) ?_
          show Steps p.tables e below (T8.setTop (mkF m 22 #[.val (.ref a1)] [(.int (1 : Int32))])) _
          refine XS.goto X8.here hx rfl (pc0 := 22) (pc' := 26) rfl (hb hby d2_22) (by decide) (by decide) ?_
          show Steps p.tables e below (T8.setTop (mkF m 26 #[.val (.ref a1)] [(.int (1 : Int32))])) _
          exact retN X8 hx (t := .boolean) Bd.returns (by simp) (hb hby d2_26) hr
        · show Q2 Z a1 s_S s_N s_B h0 n0 _ T8.heap _
          rw [e8]
          exact ⟨(by rw [show (own_f2 a1 s_S s_N s_B) = (1 : Int32) from by unfold own_f2; rw [if_neg hc3, if_neg hc6, if_pos hc9]]), N0, rfl⟩
      · obtain ⟨fs, hr, hrun, hended, hW, hsame⟩ := X8.leave (v := some (.int (0 : Int32))) (fun h => by rw [Bd.returns] at h; cases h)
        refine ⟨_, _, pr10 _ ?_, hrun, hended, _, _, rfl, ?_, ⟨_, rfl⟩, hW, hsame.mono (by decide) (by decide)⟩
        · show Steps p.tables e below (T8.setTop (mkF m 18 #[.val (.ref a1)] [(.ref s_B), (.ref a1)])) _
          refine Jvm.RoadKit.acmp (g := (mkF m 18 #[.val (.ref a1)] [(.ref s_B), (.ref a1)])) X8 hx rfl rfl rfl (pc0 := 18) (pc' := 25) (same := false) rfl (hb hby d2_18) rfl (decide_eq_false fun q => hc9 (Value.ref.inj q)) (by decide) (by decide) ?_
          show Steps p.tables e below (T8.setTop (mkF m 25 #[.val (.ref a1)] [])) _
          refine XS.iconst X8.here hx rfl (hb hby d2_25) ?_
          show Steps p.tables e below (T8.setTop (mkF m 26 #[.val (.ref a1)] [(.int (0 : Int32))])) _
          exact retN X8 hx (t := .boolean) Bd.returns (by simp) (hb hby d2_26) hr
        · show Q2 Z a1 s_S s_N s_B h0 n0 _ T8.heap _
          rw [e8]
          exact ⟨(by rw [show (own_f2 a1 s_S s_N s_B) = (0 : Int32) from by unfold own_f2; rw [if_neg hc3, if_neg hc6, if_neg hc9]]), N0, rfl⟩
def own_f3 (p1 : Int32) : Int32 := (if p1 = (0 : Int32) then (1 : Int32) else (if p1 = (1 : Int32) then (1 : Int32) else (if p1 = (2 : Int32) then (1 : Int32) else (0 : Int32))))
theorem d3_0 : decode method_3_code 0 = .ok (.iload_n 0, 1) := by decide +kernel
theorem d3_1 : decode method_3_code 1 = .ok (.ifCond .ne 5, 3) := by decide +kernel
theorem d3_4 : decode method_3_code 4 = .ok (.iconst 1, 1) := by decide +kernel
theorem d3_5 : decode method_3_code 5 = .ok (.ireturn, 1) := by decide +kernel
theorem d3_6 : decode method_3_code 6 = .ok (.iload_n 0, 1) := by decide +kernel
theorem d3_7 : decode method_3_code 7 = .ok (.iconst 1, 1) := by decide +kernel
theorem d3_8 : decode method_3_code 8 = .ok (.if_icmp .ne 5, 3) := by decide +kernel
theorem d3_11 : decode method_3_code 11 = .ok (.iconst 1, 1) := by decide +kernel
theorem d3_12 : decode method_3_code 12 = .ok (.ireturn, 1) := by decide +kernel
theorem d3_13 : decode method_3_code 13 = .ok (.iload_n 0, 1) := by decide +kernel
theorem d3_14 : decode method_3_code 14 = .ok (.iconst 2, 1) := by decide +kernel
theorem d3_15 : decode method_3_code 15 = .ok (.if_icmp .ne 5, 3) := by decide +kernel
theorem d3_18 : decode method_3_code 18 = .ok (.iconst 1, 1) := by decide +kernel
theorem d3_19 : decode method_3_code 19 = .ok (.ireturn, 1) := by decide +kernel
theorem d3_20 : decode method_3_code 20 = .ok (.iconst 0, 1) := by decide +kernel
theorem d3_21 : decode method_3_code 21 = .ok (.ireturn, 1) := by decide +kernel
theorem pn_3 : plainName "com/example/vorlage/vorlage/value/AttributeTypeIsKeyTypePinLaw" = true := by first | (simp [plainName, overriddenIn]; done) | decide +kernel
theorem ef_3 (m : MethodId) (x0 : Int32) : entryFrame m #[(.int x0)] 1 = mkF m 0 #[.val (.int x0)] [] := by first | (simp [entryFrame, mkF, argsToLocals, Value.category]; done) | rfl
def Q3 (Z : State) (p1 : Int32) (h0 : Heap) (n0 : Nat) (v : Option Value) (h : Heap) (L : List Loc) : Prop := v = some (.int (own_f3 p1)) ∧ Fr n0 L ∧ h = h0
set_option maxRecDepth 65536 in
set_option maxHeartbeats 40000000 in
theorem rm3 (l : Launch) (Z : State) (a0 : Array Value) (hw : ∀ d ∈ tables_1, d.before a0 Z = true) (ws : List Jvm.Cond) (p1 : Int32) (h0 : Heap) (n0 : Nat) (Z0 : n0 ≤ h0.size) :
    MetFree l (⟨"com/example/vorlage/vorlage/value/AttributeTypeIsKeyTypePinLaw", "documentedKey", "(I)Z"⟩ : MethodName) (head1 (Jvm.Cond.code (⟨"com/example/vorlage/vorlage/value/AttributeTypeIsKeyTypePinLaw", "documentedKey", "(I)Z"⟩ : MethodName) method_3_code 1 (some .boolean) :: ws) ({ frames := 0, cells := 0, slots := 0, locals := 0 } : Room)) (fun a U => a = #[(.int p1)] ∧ Z.Warmed39 U.vm ∧ U.heap = h0) (fun _ _ _ _ _ => True) (fun _ U o U' => ∃ v L, o = .returned v ∧ Q3 Z p1 h0 n0 v U'.heap L ∧ FrameEnd U o U' L ({ frames := 0, cells := 0, slots := 0, locals := 0 } : Room).cells ({ frames := 0, cells := 0, slots := 0, locals := 0 } : Room).slots) := by
  refine MetFree.of_bodySF (plainFor_of_name pn_3) hisR ?_
  intro p e s m args below meth c s₁ Bd hml0 hP hK
  obtain ⟨rfl, hZ, hh⟩ := hP
  have hx := Bd.exec
  have hby := Bd.bytes
  have hml : c.maxLocals = 1 := hml0
  have hown : s.vm.findClass "com/example/vorlage/vorlage/value/AttributeTypeIsKeyTypePinLaw" = some m.cls := findClass_of_methodNamed Bd.named
  have hnm := (name_of_methodNamed Bd.named Bd.method).1
  have X0 : Stand p l e ({ frames := 0, cells := 0, slots := 0, locals := 0 } : Room) s m #[(.int p1)] below meth c s₁ [] 0 0 := Stand.of_body Bd
  have e0 : s₁.heap = h0 := by rw [← hh, Bd.state]; rfl
  have N0 := Fr.nil n0
  have pre0 : ∀ t, Steps p.tables e below (s₁.setTop (mkF m 0 #[.val (.int p1)] [])) t → Steps p.tables e below (s₁.setTop (entryFrame m #[(.int p1)] 1)) t := fun t k => castTop (ef_3 m p1) k
  have pr3 : ∀ t, Steps p.tables e below (s₁.setTop (mkF m 1 #[.val (.int p1)] [(.int p1)])) t → Steps p.tables e below (s₁.setTop (entryFrame m #[(.int p1)] 1)) t := by
    intro t k
    refine pre0 t ?_
    show Steps p.tables e below (s₁.setTop (mkF m 0 #[.val (.int p1)] [])) _
    refine XS.iloadN X0.here hx rfl (hb hby d3_0) rfl ?_
    show Steps p.tables e below (s₁.setTop (mkF m 1 #[.val (.int p1)] [(.int p1)])) _
    exact k
  by_cases hc2 : p1 = (0 : Int32)
  · obtain ⟨fs, hr, hrun, hended, hW, hsame⟩ := X0.leave (v := some (.int (1 : Int32))) (fun h => by rw [Bd.returns] at h; cases h)
    refine ⟨_, _, pr3 _ ?_, hrun, hended, _, _, rfl, ?_, ⟨_, rfl⟩, hW, hsame.mono (by decide) (by decide)⟩
    · show Steps p.tables e below (s₁.setTop (mkF m 1 #[.val (.int p1)] [(.int p1)])) _
      refine XS.ifNo X0.here hx rfl (hb hby d3_1) rfl ((if0 _ _).trans (teq hc2).2) ?_
      show Steps p.tables e below (s₁.setTop (mkF m 4 #[.val (.int p1)] [])) _
      refine XS.iconst X0.here hx rfl (hb hby d3_4) ?_
      show Steps p.tables e below (s₁.setTop (mkF m 5 #[.val (.int p1)] [(.int (1 : Int32))])) _
      exact retN X0 hx (t := .boolean) Bd.returns (by simp) (hb hby d3_5) hr
    · show Q3 Z p1 h0 n0 _ s₁.heap _
      rw [e0]
      exact ⟨(by rw [show (own_f3 p1) = (1 : Int32) from by unfold own_f3; rw [if_pos hc2]]), N0, rfl⟩
  · have pr5 : ∀ t, Steps p.tables e below (s₁.setTop (mkF m 8 #[.val (.int p1)] [(.int (1 : Int32)), (.int p1)])) t → Steps p.tables e below (s₁.setTop (entryFrame m #[(.int p1)] 1)) t := by
      intro t k
      refine pr3 t ?_
      show Steps p.tables e below (s₁.setTop (mkF m 1 #[.val (.int p1)] [(.int p1)])) _
      refine XS.ifYes X0.here hx rfl (pc0 := 1) (pc' := 6) rfl (hb hby d3_1) rfl ((if0 _ _).trans (feq hc2).2) (by decide) (by decide) ?_
      show Steps p.tables e below (s₁.setTop (mkF m 6 #[.val (.int p1)] [])) _
      refine XS.iloadN X0.here hx rfl (hb hby d3_6) rfl ?_
      show Steps p.tables e below (s₁.setTop (mkF m 7 #[.val (.int p1)] [(.int p1)])) _
      refine XS.iconst X0.here hx rfl (hb hby d3_7) ?_
      show Steps p.tables e below (s₁.setTop (mkF m 8 #[.val (.int p1)] [(.int (1 : Int32)), (.int p1)])) _
      exact k
    by_cases hc4 : p1 = (1 : Int32)
    · obtain ⟨fs, hr, hrun, hended, hW, hsame⟩ := X0.leave (v := some (.int (1 : Int32))) (fun h => by rw [Bd.returns] at h; cases h)
      refine ⟨_, _, pr5 _ ?_, hrun, hended, _, _, rfl, ?_, ⟨_, rfl⟩, hW, hsame.mono (by decide) (by decide)⟩
      · show Steps p.tables e below (s₁.setTop (mkF m 8 #[.val (.int p1)] [(.int (1 : Int32)), (.int p1)])) _
        refine XS.icmpNo X0.here hx rfl (hb hby d3_8) rfl (teq hc4).2 ?_
        show Steps p.tables e below (s₁.setTop (mkF m 11 #[.val (.int p1)] [])) _
        refine XS.iconst X0.here hx rfl (hb hby d3_11) ?_
        show Steps p.tables e below (s₁.setTop (mkF m 12 #[.val (.int p1)] [(.int (1 : Int32))])) _
        exact retN X0 hx (t := .boolean) Bd.returns (by simp) (hb hby d3_12) hr
      · show Q3 Z p1 h0 n0 _ s₁.heap _
        rw [e0]
        exact ⟨(by rw [show (own_f3 p1) = (1 : Int32) from by unfold own_f3; rw [if_neg hc2, if_pos hc4]]), N0, rfl⟩
    · have pr7 : ∀ t, Steps p.tables e below (s₁.setTop (mkF m 15 #[.val (.int p1)] [(.int (2 : Int32)), (.int p1)])) t → Steps p.tables e below (s₁.setTop (entryFrame m #[(.int p1)] 1)) t := by
        intro t k
        refine pr5 t ?_
        show Steps p.tables e below (s₁.setTop (mkF m 8 #[.val (.int p1)] [(.int (1 : Int32)), (.int p1)])) _
        refine XS.icmpYes X0.here hx rfl (pc0 := 8) (pc' := 13) rfl (hb hby d3_8) rfl (feq hc4).2 (by decide) (by decide) ?_
        show Steps p.tables e below (s₁.setTop (mkF m 13 #[.val (.int p1)] [])) _
        refine XS.iloadN X0.here hx rfl (hb hby d3_13) rfl ?_
        show Steps p.tables e below (s₁.setTop (mkF m 14 #[.val (.int p1)] [(.int p1)])) _
        refine XS.iconst X0.here hx rfl (hb hby d3_14) ?_
        show Steps p.tables e below (s₁.setTop (mkF m 15 #[.val (.int p1)] [(.int (2 : Int32)), (.int p1)])) _
        exact k
      by_cases hc6 : p1 = (2 : Int32)
      · obtain ⟨fs, hr, hrun, hended, hW, hsame⟩ := X0.leave (v := some (.int (1 : Int32))) (fun h => by rw [Bd.returns] at h; cases h)
        refine ⟨_, _, pr7 _ ?_, hrun, hended, _, _, rfl, ?_, ⟨_, rfl⟩, hW, hsame.mono (by decide) (by decide)⟩
        · show Steps p.tables e below (s₁.setTop (mkF m 15 #[.val (.int p1)] [(.int (2 : Int32)), (.int p1)])) _
          refine XS.icmpNo X0.here hx rfl (hb hby d3_15) rfl (teq hc6).2 ?_
          show Steps p.tables e below (s₁.setTop (mkF m 18 #[.val (.int p1)] [])) _
          refine XS.iconst X0.here hx rfl (hb hby d3_18) ?_
          show Steps p.tables e below (s₁.setTop (mkF m 19 #[.val (.int p1)] [(.int (1 : Int32))])) _
          exact retN X0 hx (t := .boolean) Bd.returns (by simp) (hb hby d3_19) hr
        · show Q3 Z p1 h0 n0 _ s₁.heap _
          rw [e0]
          exact ⟨(by rw [show (own_f3 p1) = (1 : Int32) from by unfold own_f3; rw [if_neg hc2, if_neg hc4, if_pos hc6]]), N0, rfl⟩
      · obtain ⟨fs, hr, hrun, hended, hW, hsame⟩ := X0.leave (v := some (.int (0 : Int32))) (fun h => by rw [Bd.returns] at h; cases h)
        refine ⟨_, _, pr7 _ ?_, hrun, hended, _, _, rfl, ?_, ⟨_, rfl⟩, hW, hsame.mono (by decide) (by decide)⟩
        · show Steps p.tables e below (s₁.setTop (mkF m 15 #[.val (.int p1)] [(.int (2 : Int32)), (.int p1)])) _
          refine XS.icmpYes X0.here hx rfl (pc0 := 15) (pc' := 20) rfl (hb hby d3_15) rfl (feq hc6).2 (by decide) (by decide) ?_
          show Steps p.tables e below (s₁.setTop (mkF m 20 #[.val (.int p1)] [])) _
          refine XS.iconst X0.here hx rfl (hb hby d3_20) ?_
          show Steps p.tables e below (s₁.setTop (mkF m 21 #[.val (.int p1)] [(.int (0 : Int32))])) _
          exact retN X0 hx (t := .boolean) Bd.returns (by simp) (hb hby d3_21) hr
        · show Q3 Z p1 h0 n0 _ s₁.heap _
          rw [e0]
          exact ⟨(by rw [show (own_f3 p1) = (0 : Int32) from by unfold own_f3; rw [if_neg hc2, if_neg hc4, if_neg hc6]]), N0, rfl⟩
theorem pn_0 : plainName "com/example/vorlage/vorlage/value/AttributeTypeIsKeyTypePinLaw" = true := by first | (simp [plainName, overriddenIn]; done) | decide +kernel
theorem pd_0_0 : parseMethodDescriptor "(I)Lcom/example/vorlage/vorlage/value/AttributeType;" = some ⟨[.int], some (.object "com/example/vorlage/vorlage/value/AttributeType")⟩ := by decide +kernel
theorem pd_0_1 : parseMethodDescriptor "()Z" = some ⟨[], some .boolean⟩ := by decide +kernel
theorem pd_0_2 : parseMethodDescriptor "(I)Z" = some ⟨[.int], some .boolean⟩ := by decide +kernel
theorem ef_0 (m : MethodId) (x0 : Int32) : entryFrame m #[(.int x0)] maxLocals = mkF m 0 #[.val (.int x0), .unset, .unset] [] := by first | (simp [entryFrame, mkF, argsToLocals, Value.category, maxLocals]; done) | rfl
def Q0 (Z : State) (p1 : Int32) (s_S : Addr) (s_N : Addr) (s_B : Addr) (s_BOOL : Addr) (s_NULL : Addr) (s_L : Addr) (s_M : Addr) (s_SS : Addr) (s_NS : Addr) (s_BS : Addr) (h0 : Heap) (n0 : Nat) (v : Option Value) (h : Heap) (L : List Loc) : Prop := v = some (.int (1 : Int32)) ∧ Fr n0 L
set_option maxRecDepth 65536 in
set_option maxHeartbeats 40000000 in
theorem rm0 (l : Launch) (Z : State) (a0 : Array Value) (hw : ∀ d ∈ tables_1, d.before a0 Z = true) (ws : List Jvm.Cond) (p1 : Int32) (s_S : Addr) (s_N : Addr) (s_B : Addr) (s_BOOL : Addr) (s_NULL : Addr) (s_L : Addr) (s_M : Addr) (s_SS : Addr) (s_NS : Addr) (s_BS : Addr) (h0 : Heap) (n0 : Nat) (Z0 : n0 ≤ h0.size) (S_S : Sta Z h0 "com/example/vorlage/vorlage/value/AttributeType" "S" "Lcom/example/vorlage/vorlage/value/AttributeType;" (.ref s_S)) (S_N : Sta Z h0 "com/example/vorlage/vorlage/value/AttributeType" "N" "Lcom/example/vorlage/vorlage/value/AttributeType;" (.ref s_N)) (S_B : Sta Z h0 "com/example/vorlage/vorlage/value/AttributeType" "B" "Lcom/example/vorlage/vorlage/value/AttributeType;" (.ref s_B)) (S_BOOL : Sta Z h0 "com/example/vorlage/vorlage/value/AttributeType" "BOOL" "Lcom/example/vorlage/vorlage/value/AttributeType;" (.ref s_BOOL)) (S_NULL : Sta Z h0 "com/example/vorlage/vorlage/value/AttributeType" "NULL" "Lcom/example/vorlage/vorlage/value/AttributeType;" (.ref s_NULL)) (S_L : Sta Z h0 "com/example/vorlage/vorlage/value/AttributeType" "L" "Lcom/example/vorlage/vorlage/value/AttributeType;" (.ref s_L)) (S_M : Sta Z h0 "com/example/vorlage/vorlage/value/AttributeType" "M" "Lcom/example/vorlage/vorlage/value/AttributeType;" (.ref s_M)) (S_SS : Sta Z h0 "com/example/vorlage/vorlage/value/AttributeType" "SS" "Lcom/example/vorlage/vorlage/value/AttributeType;" (.ref s_SS)) (S_NS : Sta Z h0 "com/example/vorlage/vorlage/value/AttributeType" "NS" "Lcom/example/vorlage/vorlage/value/AttributeType;" (.ref s_NS)) (S_BS : Sta Z h0 "com/example/vorlage/vorlage/value/AttributeType" "BS" "Lcom/example/vorlage/vorlage/value/AttributeType;" (.ref s_BS)) (E_o1 : Exa Z h0 (own_f1 ((p1 &&& (2147483647 : Int32)) % (10 : Int32)) s_S s_N s_B s_BOOL s_NULL s_L s_M s_SS s_NS s_BS) "com/example/vorlage/vorlage/value/AttributeType") (hq21_1 : (own_f2 (own_f1 ((p1 &&& (2147483647 : Int32)) % (10 : Int32)) s_S s_N s_B s_BOOL s_NULL s_L s_M s_SS s_NS s_BS) s_S s_N s_B) = (own_f3 ((p1 &&& (2147483647 : Int32)) % (10 : Int32)))) :
    MetFree l x (head1 (Jvm.Cond.code x code maxLocals ret :: ws) room_1) (fun a U => a = #[(.int p1)] ∧ Z.Warmed39 U.vm ∧ U.heap = h0) (fun _ _ _ _ _ => True) (fun _ U o U' => ∃ v L, o = .returned v ∧ Q0 Z p1 s_S s_N s_B s_BOOL s_NULL s_L s_M s_SS s_NS s_BS h0 n0 v U'.heap L ∧ FrameEnd U o U' L room_1.cells room_1.slots) := by
  refine MetFree.of_bodySF (plainFor_of_name pn_0) hisR ?_
  intro p e s m args below meth c s₁ Bd hml0 hP hK
  obtain ⟨rfl, hZ, hh⟩ := hP
  have hx := Bd.exec
  have hby := Bd.bytes
  have hml : c.maxLocals = 3 := hml0
  have hown : s.vm.findClass "com/example/vorlage/vorlage/value/AttributeTypeIsKeyTypePinLaw" = some m.cls := findClass_of_methodNamed Bd.named
  have hnm := (name_of_methodNamed Bd.named Bd.method).1
  have X0 : Stand p l e room_1 s m #[(.int p1)] below meth c s₁ [] 0 0 := Stand.of_body Bd
  have e0 : s₁.heap = h0 := by rw [← hh, Bd.state]; rfl
  have N0 := Fr.nil n0
  have pre0 : ∀ t, Steps p.tables e below (s₁.setTop (mkF m 0 #[.val (.int p1), .unset, .unset] [])) t → Steps p.tables e below (s₁.setTop (entryFrame m #[(.int p1)] maxLocals)) t := fun t k => castTop (ef_0 m p1) k
  obtain ⟨_, _, ⟨T2, L2, k2, n2⟩, -, X2, ⟨Lc2, hQ2, l2, y2, z2⟩, st2⟩ := Jvm.LawKit.callS X0 hx (y := (⟨"com/example/vorlage/vorlage/value/AttributeTypeIsKeyTypePinLaw", "pick", "(I)Lcom/example/vorlage/vorlage/value/AttributeType;"⟩ : MethodName)) hown (mvT hZ (hw _ (List.mem_of_getElem? (i := 1) rfl))) (mvT hZ (hw _ (List.mem_of_getElem? (i := 2) rfl))) (mvT hZ (hw _ (List.mem_of_getElem? (i := 3) rfl))) (mvT hZ (hw _ (List.mem_of_getElem? (i := 4) rfl))) (by decide) (backOf (W := 0) (rm1 l Z a0 hw [] ((p1 &&& (2147483647 : Int32)) % (10 : Int32)) s_S s_N s_B s_BOOL s_NULL s_L s_M s_SS s_NS s_BS h0 n0 Z0 S_S S_N S_B S_BOOL S_NULL S_L S_M S_SS S_NS S_BS) hZ (hw _ (List.mem_of_getElem? (i := 4) rfl)) (hw _ (List.mem_of_getElem? (i := 3) rfl)) (by decide) (by decide)) (g := (mkF m 9 #[.val (.int p1), .val (.int ((p1 &&& (2147483647 : Int32)) % (10 : Int32))), .unset] [(.int ((p1 &&& (2147483647 : Int32)) % (10 : Int32)))])) rfl (by rw [hml]; rfl) (argsL := [(.int ((p1 &&& (2147483647 : Int32)) % (10 : Int32)))]) (rest := []) (lenOf pd_0_0 rfl) rfl (by show 2 * 0 + _ ≤ _; exact Nat.le_of_eq rfl) (hb hby at_9) (fun _ _ => ⟨rfl, e0, (by decide : 0 + 0 ≤ _), (by decide : 0 + 0 ≤ _)⟩)
  dsimp only [Pt.U, Pt.locs, Pt.cells, Pt.slots] at X2 l2 y2 z2 st2 hQ2
  subst l2 y2 z2
  obtain ⟨rfl, N2q, e2⟩ := hQ2
  have N2 := Fr.app N0 N2q
  obtain ⟨cq3, kq3, q3a, q3b, q3c⟩ := isOf hZ e2 E_o1
  obtain ⟨_, _, ⟨T3, L3, k3, n3⟩, -, X3, ⟨Lc3, hQ3, l3, y3, z3⟩, st3⟩ := X2.virtualBack hx (y := (⟨"com/example/vorlage/vorlage/value/AttributeType", "isKeyType", "()Z"⟩ : MethodName)) (z := (⟨"com/example/vorlage/vorlage/value/AttributeType", "isKeyType", "()Z"⟩ : MethodName)) hown (mvT hZ (hw _ (List.mem_of_getElem? (i := 8) rfl))) (mvT hZ (hw _ (List.mem_of_getElem? (i := 9) rfl))) (notFace_of_selects (args := #[]) (mvT hZ (hw _ (List.mem_of_getElem? (i := 11) rfl)))) (mvT hZ (hw _ (List.mem_of_getElem? (i := 11) rfl))) (mvT hZ (hw _ (List.mem_of_getElem? (i := 10) rfl))) (by decide) (backOf (W := 0) (rm2 l Z a0 hw [] (own_f1 ((p1 &&& (2147483647 : Int32)) % (10 : Int32)) s_S s_N s_B s_BOOL s_NULL s_L s_M s_SS s_NS s_BS) s_S s_N s_B h0 n0 Z0 S_S S_N S_B) hZ (hw _ (List.mem_of_getElem? (i := 12) rfl)) (hw _ (List.mem_of_getElem? (i := 6) rfl)) (by decide) (by decide)) q3a q3c (g := (mkF m 14 #[.val (.int p1), .val (.int ((p1 &&& (2147483647 : Int32)) % (10 : Int32))), .val (.ref (own_f1 ((p1 &&& (2147483647 : Int32)) % (10 : Int32)) s_S s_N s_B s_BOOL s_NULL s_L s_M s_SS s_NS s_BS))] [(.ref (own_f1 ((p1 &&& (2147483647 : Int32)) % (10 : Int32)) s_S s_N s_B s_BOOL s_NULL s_L s_M s_SS s_NS s_BS))])) rfl (by rw [hml]; rfl) (Steps.refl _) (argsL := []) (rest := []) (lenOf pd_0_1 rfl) rfl (by show 2 * 0 + _ ≤ _; exact Nat.le_of_eq rfl) (hb hby at_14) (fun _ _ => ⟨rfl, e2, (by decide : 0 + 0 ≤ _), (by decide : 0 + 0 ≤ _)⟩)
  dsimp only [Pt.U, Pt.locs, Pt.cells, Pt.slots] at X3 l3 y3 z3 st3 hQ3
  subst l3 y3 z3
  obtain ⟨rfl, N3q, e3⟩ := hQ3
  have N3 := Fr.app N2 N3q
  obtain ⟨_, _, ⟨T4, L4, k4, n4⟩, -, X4, ⟨Lc4, hQ4, l4, y4, z4⟩, st4⟩ := Jvm.LawKit.callS X3 hx (y := (⟨"com/example/vorlage/vorlage/value/AttributeTypeIsKeyTypePinLaw", "documentedKey", "(I)Z"⟩ : MethodName)) hown (mvT hZ (hw _ (List.mem_of_getElem? (i := 14) rfl))) (mvT hZ (hw _ (List.mem_of_getElem? (i := 15) rfl))) (mvT hZ (hw _ (List.mem_of_getElem? (i := 3) rfl))) (mvT hZ (hw _ (List.mem_of_getElem? (i := 16) rfl))) (by decide) (backOf (W := 1) (rm3 l Z a0 hw [] ((p1 &&& (2147483647 : Int32)) % (10 : Int32)) h0 n0 Z0) hZ (hw _ (List.mem_of_getElem? (i := 16) rfl)) (hw _ (List.mem_of_getElem? (i := 3) rfl)) (by decide) (by decide)) (g := (mkF m 18 #[.val (.int p1), .val (.int ((p1 &&& (2147483647 : Int32)) % (10 : Int32))), .val (.ref (own_f1 ((p1 &&& (2147483647 : Int32)) % (10 : Int32)) s_S s_N s_B s_BOOL s_NULL s_L s_M s_SS s_NS s_BS))] [(.int ((p1 &&& (2147483647 : Int32)) % (10 : Int32))), (.int (own_f2 (own_f1 ((p1 &&& (2147483647 : Int32)) % (10 : Int32)) s_S s_N s_B s_BOOL s_NULL s_L s_M s_SS s_NS s_BS) s_S s_N s_B))])) rfl (by rw [hml]; rfl) (argsL := [(.int ((p1 &&& (2147483647 : Int32)) % (10 : Int32)))]) (rest := [(.int (own_f2 (own_f1 ((p1 &&& (2147483647 : Int32)) % (10 : Int32)) s_S s_N s_B s_BOOL s_NULL s_L s_M s_SS s_NS s_BS) s_S s_N s_B))]) (lenOf pd_0_2 rfl) rfl (by show 2 * 0 + _ ≤ _; exact Nat.le_of_eq rfl) (hb hby at_18) (fun _ _ => ⟨rfl, e3, (by decide : 0 + 0 ≤ _), (by decide : 0 + 0 ≤ _)⟩)
  dsimp only [Pt.U, Pt.locs, Pt.cells, Pt.slots] at X4 l4 y4 z4 st4 hQ4
  subst l4 y4 z4
  obtain ⟨rfl, N4q, e4⟩ := hQ4
  have N4 := Fr.app N3 N4q
  obtain ⟨fs, hr, hrun, hended, hW, hsame⟩ := X4.leave (v := some (.int (1 : Int32))) (fun h => by rw [Bd.returns] at h; cases h)
  refine ⟨_, _, pre0 _ ?_, hrun, hended, _, _, rfl, ?_, ⟨_, rfl⟩, hW, hsame.mono (by decide) (by decide)⟩
  · show Steps p.tables e below (s₁.setTop (mkF m 0 #[.val (.int p1), .unset, .unset] [])) _
    refine XS.iloadN X0.here hx rfl (hb hby at_0) rfl ?_
    show Steps p.tables e below (s₁.setTop (mkF m 1 #[.val (.int p1), .unset, .unset] [(.int p1)])) _
    refine X0.ldcInt hx hown (mvT hZ (hw _ (List.mem_of_getElem? (i := 0) rfl))) (g := (mkF m 1 #[.val (.int p1), .unset, .unset] [(.int p1)])) rfl (hb hby at_1) _ ?_
    show Steps p.tables e below (s₁.setTop (mkF m 3 #[.val (.int p1), .unset, .unset] [(.int (2147483647 : Int32)), (.int p1)])) _
    refine XS.iand X0.here hx rfl (hb hby at_3) rfl ?_
    show Steps p.tables e below (s₁.setTop (mkF m 4 #[.val (.int p1), .unset, .unset] [(.int (p1 &&& (2147483647 : Int32)))])) _
    refine XS.bipush X0.here hx rfl (hb hby at_4) ?_
    show Steps p.tables e below (s₁.setTop (mkF m 6 #[.val (.int p1), .unset, .unset] [(.int (10 : Int32)), (.int (p1 &&& (2147483647 : Int32)))])) _
    refine iremM X0 hx rfl (hb hby at_6) rfl (by decide) ?_
    show Steps p.tables e below (s₁.setTop (mkF m 7 #[.val (.int p1), .unset, .unset] [(.int ((p1 &&& (2147483647 : Int32)) % (10 : Int32)))])) _
    refine XS.istoreN X0.here hx rfl (hb hby at_7) rfl (l' := #[.val (.int p1), .val (.int ((p1 &&& (2147483647 : Int32)) % (10 : Int32))), .unset]) rfl ?_
    show Steps p.tables e below (s₁.setTop (mkF m 8 #[.val (.int p1), .val (.int ((p1 &&& (2147483647 : Int32)) % (10 : Int32))), .unset] [])) _
    refine XS.iloadN X0.here hx rfl (hb hby at_8) rfl ?_
    show Steps p.tables e below (s₁.setTop (mkF m 9 #[.val (.int p1), .val (.int ((p1 &&& (2147483647 : Int32)) % (10 : Int32))), .unset] [(.int ((p1 &&& (2147483647 : Int32)) % (10 : Int32)))])) _
    refine st2 _ ?_
    show Steps p.tables e below (T2.setTop (mkF m 12 #[.val (.int p1), .val (.int ((p1 &&& (2147483647 : Int32)) % (10 : Int32))), .unset] [(.ref (own_f1 ((p1 &&& (2147483647 : Int32)) % (10 : Int32)) s_S s_N s_B s_BOOL s_NULL s_L s_M s_SS s_NS s_BS))])) _
    refine XS.astoreN X2.here hx rfl (hb hby at_12) rfl rfl (l' := #[.val (.int p1), .val (.int ((p1 &&& (2147483647 : Int32)) % (10 : Int32))), .val (.ref (own_f1 ((p1 &&& (2147483647 : Int32)) % (10 : Int32)) s_S s_N s_B s_BOOL s_NULL s_L s_M s_SS s_NS s_BS))]) rfl ?_
    show Steps p.tables e below (T2.setTop (mkF m 13 #[.val (.int p1), .val (.int ((p1 &&& (2147483647 : Int32)) % (10 : Int32))), .val (.ref (own_f1 ((p1 &&& (2147483647 : Int32)) % (10 : Int32)) s_S s_N s_B s_BOOL s_NULL s_L s_M s_SS s_NS s_BS))] [])) _
    refine XS.aloadN X2.here hx rfl (hb hby at_13) rfl rfl ?_
    show Steps p.tables e below (T2.setTop (mkF m 14 #[.val (.int p1), .val (.int ((p1 &&& (2147483647 : Int32)) % (10 : Int32))), .val (.ref (own_f1 ((p1 &&& (2147483647 : Int32)) % (10 : Int32)) s_S s_N s_B s_BOOL s_NULL s_L s_M s_SS s_NS s_BS))] [(.ref (own_f1 ((p1 &&& (2147483647 : Int32)) % (10 : Int32)) s_S s_N s_B s_BOOL s_NULL s_L s_M s_SS s_NS s_BS))])) _
    refine st3.trans ?_
    show Steps p.tables e below (T3.setTop (mkF m 17 #[.val (.int p1), .val (.int ((p1 &&& (2147483647 : Int32)) % (10 : Int32))), .val (.ref (own_f1 ((p1 &&& (2147483647 : Int32)) % (10 : Int32)) s_S s_N s_B s_BOOL s_NULL s_L s_M s_SS s_NS s_BS))] [(.int (own_f2 (own_f1 ((p1 &&& (2147483647 : Int32)) % (10 : Int32)) s_S s_N s_B s_BOOL s_NULL s_L s_M s_SS s_NS s_BS) s_S s_N s_B))])) _
    refine XS.iloadN X3.here hx rfl (hb hby at_17) rfl ?_
    show Steps p.tables e below (T3.setTop (mkF m 18 #[.val (.int p1), .val (.int ((p1 &&& (2147483647 : Int32)) % (10 : Int32))), .val (.ref (own_f1 ((p1 &&& (2147483647 : Int32)) % (10 : Int32)) s_S s_N s_B s_BOOL s_NULL s_L s_M s_SS s_NS s_BS))] [(.int ((p1 &&& (2147483647 : Int32)) % (10 : Int32))), (.int (own_f2 (own_f1 ((p1 &&& (2147483647 : Int32)) % (10 : Int32)) s_S s_N s_B s_BOOL s_NULL s_L s_M s_SS s_NS s_BS) s_S s_N s_B))])) _
    refine st4 _ ?_
    show Steps p.tables e below (T4.setTop (mkF m 21 #[.val (.int p1), .val (.int ((p1 &&& (2147483647 : Int32)) % (10 : Int32))), .val (.ref (own_f1 ((p1 &&& (2147483647 : Int32)) % (10 : Int32)) s_S s_N s_B s_BOOL s_NULL s_L s_M s_SS s_NS s_BS))] [(.int (own_f3 ((p1 &&& (2147483647 : Int32)) % (10 : Int32)))), (.int (own_f2 (own_f1 ((p1 &&& (2147483647 : Int32)) % (10 : Int32)) s_S s_N s_B s_BOOL s_NULL s_L s_M s_SS s_NS s_BS) s_S s_N s_B))])) _
    refine XS.icmpNo X4.here hx rfl (hb hby at_21) rfl (teq (hq21_1)).2 ?_
    show Steps p.tables e below (T4.setTop (mkF m 24 #[.val (.int p1), .val (.int ((p1 &&& (2147483647 : Int32)) % (10 : Int32))), .val (.ref (own_f1 ((p1 &&& (2147483647 : Int32)) % (10 : Int32)) s_S s_N s_B s_BOOL s_NULL s_L s_M s_SS s_NS s_BS))] [])) _
    refine XS.iconst X4.here hx rfl (hb hby at_24) ?_
    show Steps p.tables e below (T4.setTop (mkF m 25 #[.val (.int p1), .val (.int ((p1 &&& (2147483647 : Int32)) % (10 : Int32))), .val (.ref (own_f1 ((p1 &&& (2147483647 : Int32)) % (10 : Int32)) s_S s_N s_B s_BOOL s_NULL s_L s_M s_SS s_NS s_BS))] [(.int (1 : Int32))])) _
    refine XS.goto X4.here hx rfl (pc0 := 25) (pc' := 29) rfl (hb hby at_25) (by decide) (by decide) ?_
    show Steps p.tables e below (T4.setTop (mkF m 29 #[.val (.int p1), .val (.int ((p1 &&& (2147483647 : Int32)) % (10 : Int32))), .val (.ref (own_f1 ((p1 &&& (2147483647 : Int32)) % (10 : Int32)) s_S s_N s_B s_BOOL s_NULL s_L s_M s_SS s_NS s_BS))] [(.int (1 : Int32))])) _
    exact retN X4 hx (t := .boolean) Bd.returns (by simp) (hb hby at_29) hr
  · show Q0 Z p1 s_S s_N s_B s_BOOL s_NULL s_L s_M s_SS s_NS s_BS h0 n0 _ T4.heap _
    rw [e4]
    exact ⟨rfl, N4⟩
set_option maxRecDepth 65536 in
set_option maxHeartbeats 40000000 in
theorem comes_1 {Post : Tables → Env → Array Value → State → Outcome → State → Prop} (hpost : ∀ tb e args s v u, (limb_1_1.after args s (.returned v) u = true ∧ limb_1_2.after args s (.returned v) u = true ∧ True) → FrameEnd s (.returned v) u (Jvm.fieldLocs frame_1_writes args s ++ Jvm.arrayLocs frame_1_arrays args s ++ Jvm.staticLocs frame_1_statics s) 0 0 → Post tb e args s (.returned v) u) :
    ArmFor flags0 classFile x code maxLocals ret World_1 tables_1 room_1 Calls_1 rest_1 Pre_1 Post := by
  intro l hfl _ _ p e ha hc hk s m args below hf hA hF happ hP
  obtain ⟨hcalls, hrest, hpre⟩ := hP
  obtain ⟨-, -, -, hnamed, -, -, -, hat⟩ := (Spec.applies_iff hf).mp happ
  obtain ⟨hg, hn⟩ := and_e (Cond.before_iff.mp (show (Jvm.Cond.and given_1 narrow_1).before args s = true from hpre))
  obtain ⟨c1, c2⟩ := and_e hg
  obtain ⟨w0, rfl⟩ : ∃ w0 : Value, args = #[w0] := by
    have hs : args.size = 1 := by simpa [Cond.value, given_1] using c1
    obtain ⟨L⟩ := args
    match L, hs with
    | [w0], _ => exact ⟨w0, rfl⟩
  have hw := fun d (hd : d ∈ tables_1) => atoms_spec (ws := Jvm.Cond.code x code maxLocals ret :: tables_1) hat d (List.mem_cons_of_mem _ hd)
  have hfit : Fit s := fun {y c} hc i hi => by
    obtain ⟨ha, rfl⟩ := Array.getElem?_eq_some_iff.mp hc
    have q := List.all_eq_true.mp ((Array.all_eq_true_iff_forall_mem.mp hF) _ (Array.getElem_mem ha)) i (List.mem_range.mpr hi)
    simpa [Array.getElem?_eq_getElem hi] using q
  obtain ⟨i0, ei0⟩ := is_v c2
  obtain rfl : w0 = (.int i0) := Option.some.inj ei0
  obtain ⟨c3, c4⟩ := and_e hn
  obtain ⟨c5, c6⟩ := and_e c4
  obtain ⟨c7, c8⟩ := and_e c6
  obtain ⟨c9, c10⟩ := and_e c8
  obtain ⟨c11, c12⟩ := and_e c10
  obtain ⟨c13, c14⟩ := and_e c12
  obtain ⟨c15, c16⟩ := and_e c14
  obtain ⟨c17, c18⟩ := and_e c16
  obtain ⟨c19, c20⟩ := and_e c18
  obtain ⟨c21, c22⟩ := and_e c20
  obtain ⟨c23, c24⟩ := and_e c22
  obtain ⟨c25, c26⟩ := and_e c24
  obtain ⟨c27, c28⟩ := and_e c26
  obtain ⟨c29, c30⟩ := and_e c28
  obtain ⟨c31, c32⟩ := and_e c30
  obtain ⟨c33, c34⟩ := and_e c32
  obtain ⟨c35, c36⟩ := and_e c34
  obtain ⟨c37, c38⟩ := and_e c36
  obtain ⟨c39, c40⟩ := and_e c38
  obtain ⟨s_S, ev_S⟩ := exa_v c3
  have E_S := Exa.start ev_S c3
  have S_S := Sta.start ev_S (Or.inr ⟨(hw _ (List.mem_of_getElem? (i := 6) rfl)), (hw _ (List.mem_of_getElem? (i := 7) rfl))⟩)
  obtain ⟨s_BOOL, ev_BOOL⟩ := exa_v c5
  have E_BOOL := Exa.start ev_BOOL c5
  have S_BOOL := Sta.start ev_BOOL (Or.inr ⟨(hw _ (List.mem_of_getElem? (i := 6) rfl)), (hw _ (List.mem_of_getElem? (i := 18) rfl))⟩)
  obtain ⟨s_N, ev_N⟩ := exa_v c11
  have E_N := Exa.start ev_N c11
  have S_N := Sta.start ev_N (Or.inr ⟨(hw _ (List.mem_of_getElem? (i := 6) rfl)), (hw _ (List.mem_of_getElem? (i := 20) rfl))⟩)
  obtain ⟨s_B, ev_B⟩ := exa_v c15
  have E_B := Exa.start ev_B c15
  have S_B := Sta.start ev_B (Or.inr ⟨(hw _ (List.mem_of_getElem? (i := 6) rfl)), (hw _ (List.mem_of_getElem? (i := 22) rfl))⟩)
  obtain ⟨s_NULL, ev_NULL⟩ := exa_v c19
  have E_NULL := Exa.start ev_NULL c19
  have S_NULL := Sta.start ev_NULL (Or.inr ⟨(hw _ (List.mem_of_getElem? (i := 6) rfl)), (hw _ (List.mem_of_getElem? (i := 25) rfl))⟩)
  obtain ⟨s_SS, ev_SS⟩ := exa_v c23
  have E_SS := Exa.start ev_SS c23
  have S_SS := Sta.start ev_SS (Or.inr ⟨(hw _ (List.mem_of_getElem? (i := 6) rfl)), (hw _ (List.mem_of_getElem? (i := 27) rfl))⟩)
  obtain ⟨s_NS, ev_NS⟩ := exa_v c27
  have E_NS := Exa.start ev_NS c27
  have S_NS := Sta.start ev_NS (Or.inr ⟨(hw _ (List.mem_of_getElem? (i := 6) rfl)), (hw _ (List.mem_of_getElem? (i := 30) rfl))⟩)
  obtain ⟨s_BS, ev_BS⟩ := exa_v c31
  have E_BS := Exa.start ev_BS c31
  have S_BS := Sta.start ev_BS (Or.inr ⟨(hw _ (List.mem_of_getElem? (i := 6) rfl)), (hw _ (List.mem_of_getElem? (i := 32) rfl))⟩)
  obtain ⟨s_L, ev_L⟩ := exa_v c35
  have E_L := Exa.start ev_L c35
  have S_L := Sta.start ev_L (Or.inr ⟨(hw _ (List.mem_of_getElem? (i := 6) rfl)), (hw _ (List.mem_of_getElem? (i := 34) rfl))⟩)
  obtain ⟨s_M, ev_M⟩ := exa_v c39
  have E_M := Exa.start ev_M c39
  have S_M := Sta.start ev_M (Or.inr ⟨(hw _ (List.mem_of_getElem? (i := 6) rfl)), (hw _ (List.mem_of_getElem? (i := 36) rfl))⟩)
  have F_BOOL_ordinal := own_fldI ev_BOOL c7
  have F_S_ordinal := own_fldI ev_S c9
  have F_N_ordinal := own_fldI ev_N c13
  have F_B_ordinal := own_fldI ev_B c17
  have F_NULL_ordinal := own_fldI ev_NULL c21
  have F_SS_ordinal := own_fldI ev_SS c25
  have F_NS_ordinal := own_fldI ev_NS c29
  have F_BS_ordinal := own_fldI ev_BS c33
  have F_L_ordinal := own_fldI ev_L c37
  have F_M_ordinal := own_fldI ev_M c40
  have ne_s_B_s_N : ¬ (s_B = s_N) := Fld.ne F_B_ordinal F_N_ordinal (by decide)
  have ne_s_B_s_S : ¬ (s_B = s_S) := Fld.ne F_B_ordinal F_S_ordinal (by decide)
  have ne_s_BOOL_s_B : ¬ (s_BOOL = s_B) := Fld.ne F_BOOL_ordinal F_B_ordinal (by decide)
  have ne_s_BOOL_s_N : ¬ (s_BOOL = s_N) := Fld.ne F_BOOL_ordinal F_N_ordinal (by decide)
  have ne_s_BOOL_s_S : ¬ (s_BOOL = s_S) := Fld.ne F_BOOL_ordinal F_S_ordinal (by decide)
  have ne_s_BS_s_B : ¬ (s_BS = s_B) := Fld.ne F_BS_ordinal F_B_ordinal (by decide)
  have ne_s_BS_s_N : ¬ (s_BS = s_N) := Fld.ne F_BS_ordinal F_N_ordinal (by decide)
  have ne_s_BS_s_S : ¬ (s_BS = s_S) := Fld.ne F_BS_ordinal F_S_ordinal (by decide)
  have ne_s_L_s_B : ¬ (s_L = s_B) := Fld.ne F_L_ordinal F_B_ordinal (by decide)
  have ne_s_L_s_N : ¬ (s_L = s_N) := Fld.ne F_L_ordinal F_N_ordinal (by decide)
  have ne_s_L_s_S : ¬ (s_L = s_S) := Fld.ne F_L_ordinal F_S_ordinal (by decide)
  have ne_s_M_s_B : ¬ (s_M = s_B) := Fld.ne F_M_ordinal F_B_ordinal (by decide)
  have ne_s_M_s_N : ¬ (s_M = s_N) := Fld.ne F_M_ordinal F_N_ordinal (by decide)
  have ne_s_M_s_S : ¬ (s_M = s_S) := Fld.ne F_M_ordinal F_S_ordinal (by decide)
  have ne_s_N_s_S : ¬ (s_N = s_S) := Fld.ne F_N_ordinal F_S_ordinal (by decide)
  have ne_s_NS_s_B : ¬ (s_NS = s_B) := Fld.ne F_NS_ordinal F_B_ordinal (by decide)
  have ne_s_NS_s_N : ¬ (s_NS = s_N) := Fld.ne F_NS_ordinal F_N_ordinal (by decide)
  have ne_s_NS_s_S : ¬ (s_NS = s_S) := Fld.ne F_NS_ordinal F_S_ordinal (by decide)
  have ne_s_NULL_s_B : ¬ (s_NULL = s_B) := Fld.ne F_NULL_ordinal F_B_ordinal (by decide)
  have ne_s_NULL_s_N : ¬ (s_NULL = s_N) := Fld.ne F_NULL_ordinal F_N_ordinal (by decide)
  have ne_s_NULL_s_S : ¬ (s_NULL = s_S) := Fld.ne F_NULL_ordinal F_S_ordinal (by decide)
  have ne_s_SS_s_B : ¬ (s_SS = s_B) := Fld.ne F_SS_ordinal F_B_ordinal (by decide)
  have ne_s_SS_s_N : ¬ (s_SS = s_N) := Fld.ne F_SS_ordinal F_N_ordinal (by decide)
  have ne_s_SS_s_S : ¬ (s_SS = s_S) := Fld.ne F_SS_ordinal F_S_ordinal (by decide)
  have hd := own_mod i0 10 10 (by decide) (by decide)
  have key : (Exa s s.heap (own_f1 ((i0 &&& (2147483647 : Int32)) % (10 : Int32)) s_S s_N s_B s_BOOL s_NULL s_L s_M s_SS s_NS s_BS) "com/example/vorlage/vorlage/value/AttributeType") ∧ ((own_f2 (own_f1 ((i0 &&& (2147483647 : Int32)) % (10 : Int32)) s_S s_N s_B s_BOOL s_NULL s_L s_M s_SS s_NS s_BS) s_S s_N s_B) = (own_f3 ((i0 &&& (2147483647 : Int32)) % (10 : Int32)))) := by
    rcases own_upto10 ((i0 &&& (2147483647 : Int32)) % (10 : Int32)) hd.1 hd.2 with hk | hk | hk | hk | hk | hk | hk | hk | hk | hk
    · rw [hk, show (own_f1 (0 : Int32) s_S s_N s_B s_BOOL s_NULL s_L s_M s_SS s_NS s_BS) = s_S from by unfold own_f1; rw [if_pos (by decide : (0 : Int32) = (0 : Int32))]]
      exact ⟨E_S, (by rw [show (own_f2 s_S s_S s_N s_B) = (1 : Int32) from by unfold own_f2; rw [if_pos rfl], show (own_f3 (0 : Int32)) = (1 : Int32) from by unfold own_f3; rw [if_pos (by decide : (0 : Int32) = (0 : Int32))]])⟩
    · rw [hk, show (own_f1 (1 : Int32) s_S s_N s_B s_BOOL s_NULL s_L s_M s_SS s_NS s_BS) = s_N from by unfold own_f1; rw [if_neg (by decide : ¬ ((1 : Int32) = (0 : Int32))), if_pos (by decide : (1 : Int32) = (1 : Int32))]]
      exact ⟨E_N, (by rw [show (own_f2 s_N s_S s_N s_B) = (1 : Int32) from by unfold own_f2; rw [if_neg ne_s_N_s_S, if_pos rfl], show (own_f3 (1 : Int32)) = (1 : Int32) from by unfold own_f3; rw [if_neg (by decide : ¬ ((1 : Int32) = (0 : Int32))), if_pos (by decide : (1 : Int32) = (1 : Int32))]])⟩
    · rw [hk, show (own_f1 (2 : Int32) s_S s_N s_B s_BOOL s_NULL s_L s_M s_SS s_NS s_BS) = s_B from by unfold own_f1; rw [if_neg (by decide : ¬ ((2 : Int32) = (0 : Int32))), if_neg (by decide : ¬ ((2 : Int32) = (1 : Int32))), if_pos (by decide : (2 : Int32) = (2 : Int32))]]
      exact ⟨E_B, (by rw [show (own_f2 s_B s_S s_N s_B) = (1 : Int32) from by unfold own_f2; rw [if_neg ne_s_B_s_S, if_neg ne_s_B_s_N, if_pos rfl], show (own_f3 (2 : Int32)) = (1 : Int32) from by unfold own_f3; rw [if_neg (by decide : ¬ ((2 : Int32) = (0 : Int32))), if_neg (by decide : ¬ ((2 : Int32) = (1 : Int32))), if_pos (by decide : (2 : Int32) = (2 : Int32))]])⟩
    · rw [hk, show (own_f1 (3 : Int32) s_S s_N s_B s_BOOL s_NULL s_L s_M s_SS s_NS s_BS) = s_BOOL from by unfold own_f1; rw [if_neg (by decide : ¬ ((3 : Int32) = (0 : Int32))), if_neg (by decide : ¬ ((3 : Int32) = (1 : Int32))), if_neg (by decide : ¬ ((3 : Int32) = (2 : Int32))), if_pos (by decide : (3 : Int32) = (3 : Int32))]]
      exact ⟨E_BOOL, (by rw [show (own_f2 s_BOOL s_S s_N s_B) = (0 : Int32) from by unfold own_f2; rw [if_neg ne_s_BOOL_s_S, if_neg ne_s_BOOL_s_N, if_neg ne_s_BOOL_s_B], show (own_f3 (3 : Int32)) = (0 : Int32) from by unfold own_f3; rw [if_neg (by decide : ¬ ((3 : Int32) = (0 : Int32))), if_neg (by decide : ¬ ((3 : Int32) = (1 : Int32))), if_neg (by decide : ¬ ((3 : Int32) = (2 : Int32)))]])⟩
    · rw [hk, show (own_f1 (4 : Int32) s_S s_N s_B s_BOOL s_NULL s_L s_M s_SS s_NS s_BS) = s_NULL from by unfold own_f1; rw [if_neg (by decide : ¬ ((4 : Int32) = (0 : Int32))), if_neg (by decide : ¬ ((4 : Int32) = (1 : Int32))), if_neg (by decide : ¬ ((4 : Int32) = (2 : Int32))), if_neg (by decide : ¬ ((4 : Int32) = (3 : Int32))), if_pos (by decide : (4 : Int32) = (4 : Int32))]]
      exact ⟨E_NULL, (by rw [show (own_f2 s_NULL s_S s_N s_B) = (0 : Int32) from by unfold own_f2; rw [if_neg ne_s_NULL_s_S, if_neg ne_s_NULL_s_N, if_neg ne_s_NULL_s_B], show (own_f3 (4 : Int32)) = (0 : Int32) from by unfold own_f3; rw [if_neg (by decide : ¬ ((4 : Int32) = (0 : Int32))), if_neg (by decide : ¬ ((4 : Int32) = (1 : Int32))), if_neg (by decide : ¬ ((4 : Int32) = (2 : Int32)))]])⟩
    · rw [hk, show (own_f1 (5 : Int32) s_S s_N s_B s_BOOL s_NULL s_L s_M s_SS s_NS s_BS) = s_L from by unfold own_f1; rw [if_neg (by decide : ¬ ((5 : Int32) = (0 : Int32))), if_neg (by decide : ¬ ((5 : Int32) = (1 : Int32))), if_neg (by decide : ¬ ((5 : Int32) = (2 : Int32))), if_neg (by decide : ¬ ((5 : Int32) = (3 : Int32))), if_neg (by decide : ¬ ((5 : Int32) = (4 : Int32))), if_pos (by decide : (5 : Int32) = (5 : Int32))]]
      exact ⟨E_L, (by rw [show (own_f2 s_L s_S s_N s_B) = (0 : Int32) from by unfold own_f2; rw [if_neg ne_s_L_s_S, if_neg ne_s_L_s_N, if_neg ne_s_L_s_B], show (own_f3 (5 : Int32)) = (0 : Int32) from by unfold own_f3; rw [if_neg (by decide : ¬ ((5 : Int32) = (0 : Int32))), if_neg (by decide : ¬ ((5 : Int32) = (1 : Int32))), if_neg (by decide : ¬ ((5 : Int32) = (2 : Int32)))]])⟩
    · rw [hk, show (own_f1 (6 : Int32) s_S s_N s_B s_BOOL s_NULL s_L s_M s_SS s_NS s_BS) = s_M from by unfold own_f1; rw [if_neg (by decide : ¬ ((6 : Int32) = (0 : Int32))), if_neg (by decide : ¬ ((6 : Int32) = (1 : Int32))), if_neg (by decide : ¬ ((6 : Int32) = (2 : Int32))), if_neg (by decide : ¬ ((6 : Int32) = (3 : Int32))), if_neg (by decide : ¬ ((6 : Int32) = (4 : Int32))), if_neg (by decide : ¬ ((6 : Int32) = (5 : Int32))), if_pos (by decide : (6 : Int32) = (6 : Int32))]]
      exact ⟨E_M, (by rw [show (own_f2 s_M s_S s_N s_B) = (0 : Int32) from by unfold own_f2; rw [if_neg ne_s_M_s_S, if_neg ne_s_M_s_N, if_neg ne_s_M_s_B], show (own_f3 (6 : Int32)) = (0 : Int32) from by unfold own_f3; rw [if_neg (by decide : ¬ ((6 : Int32) = (0 : Int32))), if_neg (by decide : ¬ ((6 : Int32) = (1 : Int32))), if_neg (by decide : ¬ ((6 : Int32) = (2 : Int32)))]])⟩
    · rw [hk, show (own_f1 (7 : Int32) s_S s_N s_B s_BOOL s_NULL s_L s_M s_SS s_NS s_BS) = s_SS from by unfold own_f1; rw [if_neg (by decide : ¬ ((7 : Int32) = (0 : Int32))), if_neg (by decide : ¬ ((7 : Int32) = (1 : Int32))), if_neg (by decide : ¬ ((7 : Int32) = (2 : Int32))), if_neg (by decide : ¬ ((7 : Int32) = (3 : Int32))), if_neg (by decide : ¬ ((7 : Int32) = (4 : Int32))), if_neg (by decide : ¬ ((7 : Int32) = (5 : Int32))), if_neg (by decide : ¬ ((7 : Int32) = (6 : Int32))), if_pos (by decide : (7 : Int32) = (7 : Int32))]]
      exact ⟨E_SS, (by rw [show (own_f2 s_SS s_S s_N s_B) = (0 : Int32) from by unfold own_f2; rw [if_neg ne_s_SS_s_S, if_neg ne_s_SS_s_N, if_neg ne_s_SS_s_B], show (own_f3 (7 : Int32)) = (0 : Int32) from by unfold own_f3; rw [if_neg (by decide : ¬ ((7 : Int32) = (0 : Int32))), if_neg (by decide : ¬ ((7 : Int32) = (1 : Int32))), if_neg (by decide : ¬ ((7 : Int32) = (2 : Int32)))]])⟩
    · rw [hk, show (own_f1 (8 : Int32) s_S s_N s_B s_BOOL s_NULL s_L s_M s_SS s_NS s_BS) = s_NS from by unfold own_f1; rw [if_neg (by decide : ¬ ((8 : Int32) = (0 : Int32))), if_neg (by decide : ¬ ((8 : Int32) = (1 : Int32))), if_neg (by decide : ¬ ((8 : Int32) = (2 : Int32))), if_neg (by decide : ¬ ((8 : Int32) = (3 : Int32))), if_neg (by decide : ¬ ((8 : Int32) = (4 : Int32))), if_neg (by decide : ¬ ((8 : Int32) = (5 : Int32))), if_neg (by decide : ¬ ((8 : Int32) = (6 : Int32))), if_neg (by decide : ¬ ((8 : Int32) = (7 : Int32))), if_pos (by decide : (8 : Int32) = (8 : Int32))]]
      exact ⟨E_NS, (by rw [show (own_f2 s_NS s_S s_N s_B) = (0 : Int32) from by unfold own_f2; rw [if_neg ne_s_NS_s_S, if_neg ne_s_NS_s_N, if_neg ne_s_NS_s_B], show (own_f3 (8 : Int32)) = (0 : Int32) from by unfold own_f3; rw [if_neg (by decide : ¬ ((8 : Int32) = (0 : Int32))), if_neg (by decide : ¬ ((8 : Int32) = (1 : Int32))), if_neg (by decide : ¬ ((8 : Int32) = (2 : Int32)))]])⟩
    · rw [hk, show (own_f1 (9 : Int32) s_S s_N s_B s_BOOL s_NULL s_L s_M s_SS s_NS s_BS) = s_BS from by unfold own_f1; rw [if_neg (by decide : ¬ ((9 : Int32) = (0 : Int32))), if_neg (by decide : ¬ ((9 : Int32) = (1 : Int32))), if_neg (by decide : ¬ ((9 : Int32) = (2 : Int32))), if_neg (by decide : ¬ ((9 : Int32) = (3 : Int32))), if_neg (by decide : ¬ ((9 : Int32) = (4 : Int32))), if_neg (by decide : ¬ ((9 : Int32) = (5 : Int32))), if_neg (by decide : ¬ ((9 : Int32) = (6 : Int32))), if_neg (by decide : ¬ ((9 : Int32) = (7 : Int32))), if_neg (by decide : ¬ ((9 : Int32) = (8 : Int32)))]]
      exact ⟨E_BS, (by rw [show (own_f2 s_BS s_S s_N s_B) = (0 : Int32) from by unfold own_f2; rw [if_neg ne_s_BS_s_S, if_neg ne_s_BS_s_N, if_neg ne_s_BS_s_B], show (own_f3 (9 : Int32)) = (0 : Int32) from by unfold own_f3; rw [if_neg (by decide : ¬ ((9 : Int32) = (0 : Int32))), if_neg (by decide : ¬ ((9 : Int32) = (1 : Int32))), if_neg (by decide : ¬ ((9 : Int32) = (2 : Int32)))]])⟩
  obtain ⟨E_o1, hq21_1⟩ := key
  obtain ⟨n, o, h1, h2, h3, _, L, rfl, ⟨rfl, N⟩, hq⟩ := rm0 l s _ hw tables_1 i0 s_S s_N s_B s_BOOL s_NULL s_L s_M s_SS s_NS s_BS s.heap s.heap.size (Nat.le_refl _) S_S S_N S_B S_BOOL S_NULL S_L S_M S_SS S_NS S_BS E_o1 hq21_1 p e ha hc hk s m _ below hf ((Spec.applies_iff_loose hf).mp happ).1 ⟨rfl, State.Warmed39.refl s, rfl⟩ trivial
  refine ⟨n, _, h1, h2, h3, hpost _ _ _ _ _ _ ⟨Cond.after_iff.mpr rfl, Cond.after_iff.mpr (eq_i res_at (Term.int_eval (1)) rfl), trivial⟩ ⟨hq.1, hq.2.1, (hq.2.2.sift fun y hy => Or.inr (N y hy)).mono (by decide) (by decide)⟩⟩
theorem main_1_1 : Claimed_1_1 := comes_1 fun _ _ _ _ _ _ h hF => ⟨h.1, hF⟩
theorem main_1_2 : Claimed_1_2 := comes_1 fun _ _ _ _ _ _ h hF => ⟨h.2.1, hF⟩
end Jvm.Pilot.@@N@@
namespace Jvm.Pilot.@@N@@
open Jvm Jvm.ClassFile Sem Op Lib Jvm.Free Jvm.Stand Jvm.Pilot.@@N@@.Jvm.D
/-! MADE BY PROGRAM (witnessworld.py) out of the Statement's table words and the real class files: 12 classes; the members and pool entries that the words name. The judged class is class 1, her method 3. -/
namespace start1
open Jvm.ClassFile
def u (s : String) : CpInfo := .utf8 (stringToUtf16 s)
/-- a pool by its gaps: so many unusable entries, then the entry; so many at the end -/
def gap : Nat → List CpInfo → List CpInfo
  | 0, r => r
  | n + 1, r => .unusable :: gap n r
def poolList (es : List (Nat × CpInfo)) (last : Nat) : List CpInfo := es.foldr (fun e r => gap e.1 (e.2 :: r)) (gap last [])
def pool (es : List (Nat × CpInfo)) (last : Nat) : Array CpInfo := ⟨poolList es last⟩
def fileOf (pool : Array CpInfo) (this : Nat) (attrs : Array Attribute := #[]) (ms : Array MethodInfo := #[]) (fl : Nat := 33) (sup : Nat := 0) (ifs : Array Nat := #[]) (fds : Array FieldInfo := #[]) : ClassFile where
  minorVersion := 0
  majorVersion := 65
  constantPool := pool
  accessFlags := fl
  thisClass := this
  superClass := sup
  interfaces := ifs
  fields := fds
  methods := ms
  attributes := attrs
def plain (name : String) (sup : Option ClassId) : Class where
  name := name
  kind := .ordinary
  loader := none
  accessFlags := 33
  super := sup
  interfaces := #[]
  cf := none
  fields := #[]
  methods := #[]
  instanceTypes := #[]
  staticTypes := #[]
  resolved := #[]
  callSites := []
  init := .initialized
  statics := none
  mirror := none

def pool0 : Array CpInfo := pool [(5, u "<init>"), (0, u "()V"), (1, .class_ 10), (1, u "java/lang/Object")] 113

def k0m0 : Method := { name := "<init>", desc := "()V", sig := { parameters := [], returnType := none }, accessFlags := 1, code := none }
/-- java/lang/Object -/
def k0 : Class := { plain "java/lang/Object" none with
  accessFlags := 33
  interfaces := #[]
  cf := some (fileOf pool0 8 #[] #[{ accessFlags := 1, nameIndex := 5, descriptorIndex := 6, attributes := #[] }] 33 0 #[] #[])
  fields := #[]
  methods := #[k0m0]
  instanceTypes := #[]
  staticTypes := #[]
  resolved := Array.replicate 124 none
  statics := none }

def pool1 : Array CpInfo := pool [(2, .class_ 4), (1, u "java/lang/Object"), (0, u "<init>"), (0, u "()V"), (0, .fieldref 8 9), (0, .class_ 10), (0, .nameAndType 11 12), (0, u "com/example/vorlage/vorlage/value/AttributeType"), (0, u "S"), (0, u "Lcom/example/vorlage/vorlage/value/AttributeType;"), (0, .fieldref 8 14), (0, .nameAndType 15 12), (0, u "N"), (0, .fieldref 8 17), (0, .nameAndType 18 12), (0, u "B"), (0, .fieldref 8 20), (0, .nameAndType 21 12), (0, u "BOOL"), (0, .fieldref 8 23), (0, .nameAndType 24 12), (0, u "NULL"), (0, .fieldref 8 26), (0, .nameAndType 27 12), (0, u "L"), (0, .fieldref 8 29), (0, .nameAndType 30 12), (0, u "M"), (0, .fieldref 8 32), (0, .nameAndType 33 12), (0, u "SS"), (0, .fieldref 8 35), (0, .nameAndType 36 12), (0, u "NS"), (0, .fieldref 8 38), (0, .nameAndType 39 12), (0, u "BS"), (0, .integer 2147483647), (0, .methodref 42 43), (0, .class_ 44), (0, .nameAndType 45 46), (0, u "com/example/vorlage/vorlage/value/AttributeTypeIsKeyTypePinLaw"), (0, u "pick"), (0, u "(I)Lcom/example/vorlage/vorlage/value/AttributeType;"), (0, .methodref 8 48), (0, .nameAndType 49 50), (0, u "isKeyType"), (0, u "()Z"), (0, .methodref 42 52), (0, .nameAndType 53 54), (0, u "documentedKey"), (0, u "(I)Z"), (3, u "law")] 2

def k1m0 : Method := { name := "<init>", desc := "()V", sig := { parameters := [], returnType := none }, accessFlags := 1, code := none }
def k1c1 : Code := { maxStack := 2, maxLocals := 1, code := method_2_code, exceptionTable := #[], attributes := #[] }
def k1m1 : Method := { name := "pick", desc := "(I)Lcom/example/vorlage/vorlage/value/AttributeType;", sig := { parameters := [.int], returnType := some (.object "com/example/vorlage/vorlage/value/AttributeType") }, accessFlags := 10, code := some k1c1 }
def k1c2 : Code := { maxStack := 2, maxLocals := 1, code := method_3_code, exceptionTable := #[], attributes := #[] }
def k1m2 : Method := { name := "documentedKey", desc := "(I)Z", sig := { parameters := [.int], returnType := some .boolean }, accessFlags := 10, code := some k1c2 }
def k1c3 : Code := { maxStack := 2, maxLocals := 3, code := code, exceptionTable := #[], attributes := #[] }
def k1m3 : Method := { name := "law", desc := "(I)Z", sig := { parameters := [.int], returnType := some .boolean }, accessFlags := 9, code := some k1c3 }
/-- com/example/vorlage/vorlage/value/AttributeTypeIsKeyTypePinLaw -/
def k1 : Class := { plain "com/example/vorlage/vorlage/value/AttributeTypeIsKeyTypePinLaw" (some 0) with
  accessFlags := 49
  interfaces := #[]
  cf := some (fileOf pool1 42 #[] #[{ accessFlags := 1, nameIndex := 5, descriptorIndex := 6, attributes := #[] }, { accessFlags := 10, nameIndex := 45, descriptorIndex := 46, attributes := #[] }, { accessFlags := 10, nameIndex := 53, descriptorIndex := 54, attributes := #[] }, { accessFlags := 9, nameIndex := 58, descriptorIndex := 54, attributes := #[] }] 49 2 #[] #[])
  fields := #[]
  methods := #[k1m0, k1m1, k1m2, k1m3]
  instanceTypes := #[]
  staticTypes := #[]
  resolved := Array.replicate 61 none
  statics := none }

def pool2 : Array CpInfo := pool [(1, .class_ 2), (0, u "java/lang/constant/Constable"), (0, .class_ 4), (0, u "java/lang/Object")] 6

/-- java/lang/constant/Constable -/
def k2 : Class := { plain "java/lang/constant/Constable" (some 0) with
  accessFlags := 1537
  interfaces := #[]
  cf := some (fileOf pool2 1 #[] #[] 1537 3 #[] #[])
  fields := #[]
  methods := #[]
  instanceTypes := #[]
  staticTypes := #[]
  resolved := Array.replicate 11 none
  statics := none }

def pool3 : Array CpInfo := pool [(1, .class_ 2), (0, u "java/lang/Comparable"), (0, .class_ 4), (0, u "java/lang/Object")] 7

/-- java/lang/Comparable -/
def k3 : Class := { plain "java/lang/Comparable" (some 0) with
  accessFlags := 1537
  interfaces := #[]
  cf := some (fileOf pool3 1 #[] #[] 1537 3 #[] #[])
  fields := #[]
  methods := #[]
  instanceTypes := #[]
  staticTypes := #[]
  resolved := Array.replicate 12 none
  statics := none }

def pool4 : Array CpInfo := pool [(1, .class_ 2), (0, u "java/io/Serializable"), (0, .class_ 4), (0, u "java/lang/Object")] 2

/-- java/io/Serializable -/
def k4 : Class := { plain "java/io/Serializable" (some 0) with
  accessFlags := 1537
  interfaces := #[]
  cf := some (fileOf pool4 1 #[] #[] 1537 3 #[] #[])
  fields := #[]
  methods := #[]
  instanceTypes := #[]
  staticTypes := #[]
  resolved := Array.replicate 7 none
  statics := none }

def pool5 : Array CpInfo := pool [(2, .class_ 4), (1, u "java/lang/Enum"), (0, u "name"), (0, u "Ljava/lang/String;"), (2, u "ordinal"), (0, u "I"), (1, .class_ 14), (1, u "java/lang/Object"), (4, u "hash"), (86, .class_ 108), (1, u "java/lang/Enum$EnumDesc"), (2, .class_ 112), (0, u "java/lang/constant/Constable"), (0, .class_ 114), (0, u "java/lang/Comparable"), (0, .class_ 116), (0, u "java/io/Serializable")] 87

/-- java/lang/Enum -/
def k5 : Class := { plain "java/lang/Enum" (some 0) with
  accessFlags := 1057
  interfaces := #[2, 3, 4]
  cf := some (fileOf pool5 2 #[.nestMembers #[106]] #[] 1057 12 #[111, 113, 115] #[{ accessFlags := 18, nameIndex := 5, descriptorIndex := 6, attributes := #[] }, { accessFlags := 18, nameIndex := 9, descriptorIndex := 10, attributes := #[] }, { accessFlags := 2, nameIndex := 19, descriptorIndex := 10, attributes := #[] }])
  fields := #[{ name := "name", type := (.object "java/lang/String"), accessFlags := 18, slot := 0, constantValue := 0 }, { name := "ordinal", type := .int, accessFlags := 18, slot := 1, constantValue := 0 }, { name := "hash", type := .int, accessFlags := 2, slot := 2, constantValue := 0 }]
  methods := #[]
  instanceTypes := #[(.object "java/lang/String"), .int, .int]
  staticTypes := #[]
  resolved := Array.replicate 204 none
  statics := none }

def pool6 : Array CpInfo := pool [(1, .class_ 2), (0, u "com/example/vorlage/vorlage/value/AttributeType"), (0, .fieldref 1 4), (0, .nameAndType 5 6), (0, u "S"), (0, u "Lcom/example/vorlage/vorlage/value/AttributeType;"), (0, .fieldref 1 8), (0, .nameAndType 9 6), (0, u "N"), (0, .fieldref 1 11), (0, .nameAndType 12 6), (0, u "B"), (2, u "BOOL"), (2, u "NULL"), (2, u "L"), (2, u "M"), (2, u "SS"), (2, u "NS"), (2, u "BS"), (2, u "$VALUES"), (0, u "[Lcom/example/vorlage/vorlage/value/AttributeType;"), (6, .class_ 46), (1, u "java/lang/Enum"), (28, u "isKeyType"), (0, u "()Z")] 6

def k6c0 : Code := { maxStack := 2, maxLocals := 1, code := prog_44_method_4_code, exceptionTable := #[], attributes := #[] }
def k6m0 : Method := { name := "isKeyType", desc := "()Z", sig := { parameters := [], returnType := some .boolean }, accessFlags := 1, code := some k6c0 }
/-- com/example/vorlage/vorlage/value/AttributeType -/
def k6 : Class := { plain "com/example/vorlage/vorlage/value/AttributeType" (some 5) with
  accessFlags := 16433
  interfaces := #[]
  cf := some (fileOf pool6 1 #[] #[{ accessFlags := 1, nameIndex := 75, descriptorIndex := 76, attributes := #[] }] 16433 44 #[] #[{ accessFlags := 16409, nameIndex := 5, descriptorIndex := 6, attributes := #[] }, { accessFlags := 16409, nameIndex := 9, descriptorIndex := 6, attributes := #[] }, { accessFlags := 16409, nameIndex := 12, descriptorIndex := 6, attributes := #[] }, { accessFlags := 16409, nameIndex := 15, descriptorIndex := 6, attributes := #[] }, { accessFlags := 16409, nameIndex := 18, descriptorIndex := 6, attributes := #[] }, { accessFlags := 16409, nameIndex := 21, descriptorIndex := 6, attributes := #[] }, { accessFlags := 16409, nameIndex := 24, descriptorIndex := 6, attributes := #[] }, { accessFlags := 16409, nameIndex := 27, descriptorIndex := 6, attributes := #[] }, { accessFlags := 16409, nameIndex := 30, descriptorIndex := 6, attributes := #[] }, { accessFlags := 16409, nameIndex := 33, descriptorIndex := 6, attributes := #[] }, { accessFlags := 4122, nameIndex := 36, descriptorIndex := 37, attributes := #[] }])
  fields := #[{ name := "S", type := (.object "com/example/vorlage/vorlage/value/AttributeType"), accessFlags := 16409, slot := 0, constantValue := 0 }, { name := "N", type := (.object "com/example/vorlage/vorlage/value/AttributeType"), accessFlags := 16409, slot := 1, constantValue := 0 }, { name := "B", type := (.object "com/example/vorlage/vorlage/value/AttributeType"), accessFlags := 16409, slot := 2, constantValue := 0 }, { name := "BOOL", type := (.object "com/example/vorlage/vorlage/value/AttributeType"), accessFlags := 16409, slot := 3, constantValue := 0 }, { name := "NULL", type := (.object "com/example/vorlage/vorlage/value/AttributeType"), accessFlags := 16409, slot := 4, constantValue := 0 }, { name := "L", type := (.object "com/example/vorlage/vorlage/value/AttributeType"), accessFlags := 16409, slot := 5, constantValue := 0 }, { name := "M", type := (.object "com/example/vorlage/vorlage/value/AttributeType"), accessFlags := 16409, slot := 6, constantValue := 0 }, { name := "SS", type := (.object "com/example/vorlage/vorlage/value/AttributeType"), accessFlags := 16409, slot := 7, constantValue := 0 }, { name := "NS", type := (.object "com/example/vorlage/vorlage/value/AttributeType"), accessFlags := 16409, slot := 8, constantValue := 0 }, { name := "BS", type := (.object "com/example/vorlage/vorlage/value/AttributeType"), accessFlags := 16409, slot := 9, constantValue := 0 }, { name := "$VALUES", type := (.array (.object "com/example/vorlage/vorlage/value/AttributeType")), accessFlags := 4122, slot := 10, constantValue := 0 }]
  methods := #[k6m0]
  instanceTypes := #[(.object "java/lang/String"), .int, .int]
  staticTypes := #[(.object "com/example/vorlage/vorlage/value/AttributeType"), (.object "com/example/vorlage/vorlage/value/AttributeType"), (.object "com/example/vorlage/vorlage/value/AttributeType"), (.object "com/example/vorlage/vorlage/value/AttributeType"), (.object "com/example/vorlage/vorlage/value/AttributeType"), (.object "com/example/vorlage/vorlage/value/AttributeType"), (.object "com/example/vorlage/vorlage/value/AttributeType"), (.object "com/example/vorlage/vorlage/value/AttributeType"), (.object "com/example/vorlage/vorlage/value/AttributeType"), (.object "com/example/vorlage/vorlage/value/AttributeType"), (.array (.object "com/example/vorlage/vorlage/value/AttributeType"))]
  resolved := Array.replicate 83 none
  statics := some 0 }

def pool7 : Array CpInfo := pool [(1, u "java/lang/Cloneable"), (0, .class_ 1), (0, u "java/lang/Object"), (0, .class_ 3)] 3

/-- java/lang/Cloneable -/
def k7 : Class := { plain "java/lang/Cloneable" (some 0) with
  accessFlags := 1537
  interfaces := #[]
  cf := some (fileOf pool7 2 #[] #[] 1537 4 #[] #[])
  fields := #[]
  methods := #[]
  instanceTypes := #[]
  staticTypes := #[]
  resolved := Array.replicate 8 none
  statics := none }

/-- the primitive byte -/
def k8 : Class := { plain "byte" none with kind := .primitive 'B', accessFlags := 0x411 }
/-- [B -/
def k9 : Class := { plain "[B" (some 0) with kind := .array 8 .byte, interfaces := #[7, 4], accessFlags := 1041 }

/-- the primitive int -/
def k10 : Class := { plain "int" none with kind := .primitive 'I', accessFlags := 0x411 }
/-- [I -/
def k11 : Class := { plain "[I" (some 0) with kind := .array 10 .int, interfaces := #[7, 4], accessFlags := 1041 }

def heap : Heap := #[{ cls := 6, slots := #[.ref 1, .ref 3, .ref 4, .ref 2, .ref 5, .ref 9, .ref 10, .ref 6, .ref 7, .ref 8, .null], vm := .statics 6 },
  { cls := 6, slots := #[.null, .int 0, .int 0], vm := .none },
  { cls := 6, slots := #[.null, .int 3, .int 0], vm := .none },
  { cls := 6, slots := #[.null, .int 1, .int 0], vm := .none },
  { cls := 6, slots := #[.null, .int 2, .int 0], vm := .none },
  { cls := 6, slots := #[.null, .int 4, .int 0], vm := .none },
  { cls := 6, slots := #[.null, .int 7, .int 0], vm := .none },
  { cls := 6, slots := #[.null, .int 8, .int 0], vm := .none },
  { cls := 6, slots := #[.null, .int 9, .int 0], vm := .none },
  { cls := 6, slots := #[.null, .int 5, .int 0], vm := .none },
  { cls := 6, slots := #[.null, .int 6, .int 0], vm := .none }]
def classes : Array Class := #[k0, k1, k2, k3, k4, k5, k6, k7, k8, k9, k10, k11]
def interned : List (Array UInt16 × Addr) := []
def slotsUsed : Nat := 41
def theMethod : MethodId := ⟨1, 3⟩
def args0 : Array Value := #[.int 5]
def aboutOver (below : List Frame) : State where
  vm := { classes := classes, interned := interned.toArray }
  heap := heap
  slotsUsed := slotsUsed
  threads := #[{ frames := .invoking theMethod args0 :: below }]
def below0 : List Frame := [.native { method := ⟨0, 0⟩, args := #[] }]
def about1 : State := aboutOver below0
def p0 : Program := .bare "" "" ""
def e0 : Env := launch0.env 0 0 0
theorem w_frames : about1.frames = Frame.invoking theMethod args0 :: below0 := rfl
set_option maxRecDepth 65536 in
theorem w_args : argsFit about1.vm theMethod args0 = true := by decide +kernel
set_option maxRecDepth 65536 in
theorem w_heap : heapFits about1 = true := by decide +kernel
set_option maxRecDepth 65536 in
theorem w_runnable : about1.curStatus? = some .runnable := by decide +kernel
set_option maxRecDepth 65536 in
theorem w_alone : about1.alone = true := by decide +kernel
set_option maxRecDepth 65536 in
theorem w_named : about1.methodNamed? x = some theMethod := by decide +kernel
set_option maxRecDepth 65536 in
theorem w_hears : about1.hears theMethod below0 = true := by decide +kernel
set_option maxRecDepth 65536 in
theorem w_ripe : about1.ripe theMethod args0 below0 = true := by decide +kernel
theorem w_running : about1.status = .running := rfl
set_option maxRecDepth 65536 in
theorem w_room : about1.hasRoom e0.platform room_1 = true :=
  launch0.hasRoom_least _ room_1 (by decide +kernel) (by decide +kernel) (by decide +kernel) (by decide +kernel) (by decide +kernel) (by decide +kernel)
theorem allAtoms_all (ts : List Jvm.Cond) (a : Array Jvm.Value) (st : Jvm.State) : (allAtoms ts).before a st = ts.all (fun c => c.before a st) := by
  induction ts with
  | nil => rfl
  | cons c t ih =>
    show (Jvm.Cond.and c (allAtoms t)).before a st = _
    rw [Jvm.Cond.before_and, ih, List.all_cons]
def words1 : List Jvm.Cond := Jvm.Cond.code x code maxLocals ret :: tables_1
/-- a 'code' word, met by the world's own term for the bytes: nothing is compared byte by byte -/
theorem code_word {y : MethodName} {bytes : ByteArray} {mx : Nat} {rt : Option FieldType} {a : Array Value} {s : State} {m : MethodId} {meth : Method} {c : Code} (h1 : s.methodNamed? y = some m) (h2 : s.vm.method? m = some meth) (h3 : meth.code = some c) (h4 : c.code = bytes)
    (h5 : (c.maxLocals == mx && c.exceptionTable.isEmpty && decide (c.maxStack ≤ mostOperands) && decide (meth.sig.returnType = rt) && !meth.locks && decide (parseMethodDescriptor y.desc = some meth.sig)) = true) : (Jvm.Cond.code y bytes mx rt).before a s = true := by
  simp only [Bool.and_eq_true, beq_iff_eq, Bool.not_eq_true', decide_eq_true_eq] at h5
  obtain ⟨⟨⟨⟨⟨g1, g2⟩, g3⟩, g4⟩, g5⟩, g6⟩ := h5
  simp [Cond.before, Cond.holds, Cond.value, h1, h2, h3, h4, g1, g2, g3, g4, g5, g6]
def isCode : Jvm.Cond → Bool
  | .code _ _ _ _ => true
  | _ => false
theorem all_split {L : List Jvm.Cond} {P : Jvm.Cond → Bool} (h1 : L.all (fun c => isCode c || P c) = true) (h2 : ∀ c ∈ L.filter isCode, P c = true) : L.all P = true := by
  refine List.all_eq_true.mpr fun c hc => ?_
  have h := List.all_eq_true.mp h1 c hc
  rcases Bool.eq_false_or_eq_true (isCode c) with hi | hi
  · exact h2 c (List.mem_filter.mpr ⟨hc, hi⟩)
  · simpa [hi] using h
set_option maxRecDepth 65536 in
theorem w_c0 : (Jvm.Cond.code x code maxLocals ret).before args0 about1 = true := code_word (m := ⟨1, 3⟩) (meth := k1m3) (c := k1c3) (by decide +kernel) rfl rfl rfl (by decide +kernel)
set_option maxRecDepth 65536 in
theorem w_c1 : (Jvm.Cond.code ({ cls := "com/example/vorlage/vorlage/value/AttributeTypeIsKeyTypePinLaw", name := "pick", desc := "(I)Lcom/example/vorlage/vorlage/value/AttributeType;" } : Jvm.MethodName) method_2_code (1 : Nat) (Option.some (Jvm.ClassFile.FieldType.object "com/example/vorlage/vorlage/value/AttributeType"))).before args0 about1 = true := code_word (m := ⟨1, 1⟩) (meth := k1m1) (c := k1c1) (by decide +kernel) rfl rfl rfl (by decide +kernel)
set_option maxRecDepth 65536 in
theorem w_c2 : (Jvm.Cond.code ({ cls := "com/example/vorlage/vorlage/value/AttributeType", name := "isKeyType", desc := "()Z" } : Jvm.MethodName) prog_44_method_4_code (1 : Nat) (Option.some Jvm.ClassFile.FieldType.boolean)).before args0 about1 = true := code_word (m := ⟨6, 0⟩) (meth := k6m0) (c := k6c0) (by decide +kernel) rfl rfl rfl (by decide +kernel)
set_option maxRecDepth 65536 in
theorem w_c3 : (Jvm.Cond.code ({ cls := "com/example/vorlage/vorlage/value/AttributeTypeIsKeyTypePinLaw", name := "documentedKey", desc := "(I)Z" } : Jvm.MethodName) method_3_code (1 : Nat) (Option.some Jvm.ClassFile.FieldType.boolean)).before args0 about1 = true := code_word (m := ⟨1, 2⟩) (meth := k1m2) (c := k1c2) (by decide +kernel) rfl rfl rfl (by decide +kernel)
def codes1 : List Jvm.Cond := [Jvm.Cond.code x code maxLocals ret, Jvm.Cond.code ({ cls := "com/example/vorlage/vorlage/value/AttributeTypeIsKeyTypePinLaw", name := "pick", desc := "(I)Lcom/example/vorlage/vorlage/value/AttributeType;" } : Jvm.MethodName) method_2_code (1 : Nat) (Option.some (Jvm.ClassFile.FieldType.object "com/example/vorlage/vorlage/value/AttributeType")), Jvm.Cond.code ({ cls := "com/example/vorlage/vorlage/value/AttributeType", name := "isKeyType", desc := "()Z" } : Jvm.MethodName) prog_44_method_4_code (1 : Nat) (Option.some Jvm.ClassFile.FieldType.boolean), Jvm.Cond.code ({ cls := "com/example/vorlage/vorlage/value/AttributeTypeIsKeyTypePinLaw", name := "documentedKey", desc := "(I)Z" } : Jvm.MethodName) method_3_code (1 : Nat) (Option.some Jvm.ClassFile.FieldType.boolean)]
set_option maxRecDepth 65536 in
theorem codes_eq : words1.filter isCode = codes1 := rfl
theorem w_codes : ∀ c ∈ words1.filter isCode, c.before args0 about1 = true := by
  rw [codes_eq]
  intro c hc
  simp only [codes1, List.mem_cons, List.not_mem_nil, or_false] at hc
  rcases hc with rfl | rfl | rfl | rfl
  · exact w_c0
  · exact w_c1
  · exact w_c2
  · exact w_c3
set_option maxRecDepth 65536 in
theorem w_t1 : (words1.take 24).all (fun c => isCode c || c.before args0 about1) = true := by decide +kernel
set_option maxRecDepth 65536 in
theorem w_t2 : (words1.drop 24).all (fun c => isCode c || c.before args0 about1) = true := by decide +kernel
theorem w_tables : (allAtoms (Jvm.Cond.code x code maxLocals ret :: tables_1)).before args0 about1 = true := by
  rw [allAtoms_all]
  show words1.all (fun c => c.before args0 about1) = true
  refine all_split ?_ w_codes
  rw [← List.take_append_drop 24 words1, List.all_append, w_t1, w_t2]
  rfl
set_option maxRecDepth 65536 in
theorem w_case : (Jvm.Cond.and given_1 narrow_1).before args0 about1 = true := by decide +kernel
theorem w_applies : (headSpec (Jvm.Cond.code x code maxLocals ret :: tables_1) room_1).applies x e0.platform about1 = true :=
  (Spec.applies_iff w_frames).mpr ⟨w_running, w_runnable, w_alone, w_named, w_hears, w_ripe, w_room, w_tables⟩
theorem atStart : AtStart classFile x code maxLocals ret World_1 tables_1 room_1 Calls_1 rest_1 Pre_1 launch0 p0 e0 about1 theMethod args0 below0 :=
  ⟨lists_1, trivial, launch0.admits_env _ _ _, launch0.least_env, fairChoices_fair.cas, fairChoices_fair.clock, w_frames, w_args, w_heap, w_applies, trivial, trivial, w_case⟩
end start1
theorem witness_1 : WitnessClaimed_1 := ⟨start1.p0, start1.e0, start1.about1, start1.theMethod, start1.args0, start1.below0, start1.atStart⟩
end Jvm.Pilot.@@N@@
