import JvmDerived
import JvmDerived.Pilot.@@N@@Statement
import JvmDerived.Pilot.@@N@@Code
set_option linter.unusedVariables false
set_option linter.unusedSimpArgs false
namespace Jvm.Pilot.@@N@@
open Jvm Jvm.ClassFile Sem Op Lib Jvm.Free Jvm.Stand Jvm.LawKit Jvm.RoadKit Bundle Jvm.Pilot.@@N@@.Jvm.D
theorem own_fldI {Z : State} {args : Array Value} {t : Term} {a : Addr} {C n d : String} {z : Int32} (ev : t.eval args Z none [] Z = some (.ref a)) (h : (Cond.eq (Term.field t C n d) (Term.int z)).value args Z none Z [] = some true) : Fld Z Z.heap a C n d (.int z) := by
  obtain ⟨x, y, h1, h2, k1, k2⟩ := cmp_v (Or.inl h)
  have e2 : y = .int z := (Option.some.inj h2).symm
  subst e2
  obtain ⟨w, rfl⟩ := k2
  have hq : (Cond.eq (Term.field t C n d) (Term.int z)).value args Z none Z [] = some (decide (w = z)) := by simp [Cond.value, h1, h2]
  have hw : w = z := gotT hq h
  subst hw
  exact Fld.start ((fld_at ev).symm.trans h1)
theorem own_fldJ {Z : State} {args : Array Value} {t : Term} {a : Addr} {C n d : String} {z : Int64} (ev : t.eval args Z none [] Z = some (.ref a)) (h : (Cond.eq (Term.field t C n d) (Term.long z)).value args Z none Z [] = some true) : Fld Z Z.heap a C n d (.long z) := by
  obtain ⟨x, y, h1, h2, k1, k2⟩ := cmp_v (Or.inl h)
  have e2 : y = .long z := (Option.some.inj h2).symm
  subst e2
  obtain ⟨w, rfl⟩ := k2
  have hq : (Cond.eq (Term.field t C n d) (Term.long z)).value args Z none Z [] = some (decide (w = z)) := eq_L h1 h2
  have hw : w = z := gotT hq h
  subst hw
  exact Fld.start ((fld_at ev).symm.trans h1)
theorem own_arrKeep {Z : State} {h h' : Heap} {ws : List Addr} {a : Addr} {c : Cell} {ty : FieldType} (F : Arr Z h a c ty) (K : Keep h h' ws) (q : a ∉ ws) : Arr Z h' a c ty := ⟨K.2.1 _ _ F.1 q, F.2⟩
theorem own_staKeep {Z : State} {h h' : Heap} {ws : List Addr} {C n d : String} {v : Value} (F : Sta Z h C n d v) (K : Keep h h' ws) (q : ∀ x ∈ ws, ∀ c : Cell, h[x]? = some c → c.vm.isStatics = false) : Sta Z h' C n d v := by
  obtain ⟨cf, i, k, f, st, cell, h1, h2, h3, h4, h5, h6, h7⟩ := F
  exact ⟨cf, i, k, f, st, cell, h1, h2, h3, h4, K.2.1 _ _ h5 (fun z => by rw [q _ z _ h5] at h6; cases h6), h6, h7⟩
theorem own_len {Z : State} {args : Array Value} {t : Term} {a : Addr} {c : Cell} {ty : FieldType} {z : Int32} (ev : t.eval args Z none [] Z = some (.ref a)) (A : Arr Z Z.heap a c ty) (h : (Cond.eq (Term.length t) (Term.int z)).value args Z none Z [] = some true) : c.slots.size < 2 ^ 31 ∧ c.slots.size.toInt32 = z := by
  obtain ⟨x, y, h1, h2, k1, k2⟩ := cmp_v (Or.inl h)
  have ha := A.fin (Vm.Alike.refl _)
  by_cases q : c.slots.size < 2 ^ 31
  · have h3 := len_f ev ha q
    have hq : (Cond.eq (Term.length t) (Term.int z)).value args Z none Z [] = some (decide (c.slots.size.toInt32 = z)) := by simp only [Cond.value, h3, Term.int_eval]
    exact ⟨q, gotT hq h⟩
  · exfalso
    simp [Term.eval, ev, ha, q] at h1
def own_No (Z : State) (C K : String) : Prop := ∃ c t, Z.vm.findClass C = some c ∧ Z.vm.findClass K = some t ∧ Z.vm.assignable c t = false
theorem own_noChain {Z : State} {a0 : Array Value} {C S O K : String} {n : Nat} (w1 : (Cond.superclass C S).before a0 Z = true) (w2 : (Cond.superclass S O).before a0 Z = true) (w3 : (Cond.noSuperclass O).before a0 Z = true) (wk : (Cond.instantiable K n).before a0 Z = true) (h1 : C ≠ K) (h2 : S ≠ K) (h3 : O ≠ K) : own_No Z C K := by
  obtain ⟨t, kt, t1, t2, t3, t4, -⟩ := Cond.instantiable_spec wk
  obtain ⟨co, ko, o1, o2, o3, -, -⟩ := Cond.noSuperclass_spec w3
  have no : NS Z O K := ⟨co, t, o1, t1, fun fuel => by
    have ne := ids_ne o1 t1 h3
    cases fuel with
    | zero => rfl
    | succ f => simp [Vm.isSubclassAux, ne, o2, o3]⟩
  obtain ⟨c, t', c1, c2, c3⟩ := NS.step w1 (NS.step w2 no h2) h1
  cases t1.symm.trans c2
  obtain ⟨q, k, kq, q1, q2, q3, q4, q5, -, q7⟩ := Cond.superclass_spec c1 w1
  have ne := ids_ne c1 t1 h1
  have hi : kt.isInterface = false := by cases hb : kt.isInterface with | false => rfl | true => rw [hb] at t4; simp at t4
  refine ⟨c, t, c1, t1, ?_⟩
  show Z.vm.assignableAux (255 + 1) c t = false
  simp [Vm.assignableAux, ne, q2, t2, q5, t3, hi, Vm.isSubclass, c3]
theorem own_eqI {Z : State} {args : Array Value} {t : Term} {z : Int32} (h : (Cond.eq t (Term.int z)).value args Z none Z [] = some true) : t.eval args Z none [] Z = some (.int z) := by
  obtain ⟨x, y, h1, h2, k1, k2⟩ := cmp_v (Or.inl h)
  have e2 : y = .int z := (Option.some.inj h2).symm
  subst e2
  obtain ⟨w, rfl⟩ := k2
  have hq : (Cond.eq t (Term.int z)).value args Z none Z [] = some (decide (w = z)) := by simp [Cond.value, h1, h2]
  have hw : w = z := gotT hq h
  subst hw
  exact h1
theorem own_elems {Z : State} {args : Array Value} {C n d : String} {a : Addr} {cl : Cell} {ty : FieldType} {K : String} {r : Jvm.Cond} (ev : (Term.static C n d).eval args Z none [] Z = some (.ref a)) (A : Arr Z Z.heap a cl ty) (hs : cl.slots.size < 2 ^ 31)
    (h : (Cond.all (Term.static C n d) (Cond.and (Cond.exactly (Term.elem (Term.static C n d) (Term.index 0)) K) r)).value args Z none Z [] = some true) : ∀ i, i < cl.slots.size → ∃ w, cl.slots[i]? = some (.ref w) ∧ Exa Z Z.heap w K := by
  intro i hi
  obtain ⟨h2, -⟩ := and_e (Cond.all_elim ev (A.fin (Vm.Alike.refl _)) h i hi)
  obtain ⟨w, c, cell, k, e1, e2, e3, e4, e5, rfl, e7⟩ := Cond.exactly_spec (beq_iff_eq.mpr h2 : (Cond.exactly _ K).holds args Z none Z [i] = true)
  have ev' : (Term.static C n d).eval args Z none [i] Z = some (.ref a) := ev
  have hj : (Term.index 0).eval args Z none [i] Z = some (.int i.toInt32) := rfl
  have g := (elem_in e1 ev' hj A.1).2
  have e : (Nat.toInt32 i).toNatClampNeg = i := by simp only [Int32.toNatClampNeg, len_toInt (Nat.lt_trans hi hs)]; rfl
  rw [e] at g
  exact ⟨w, g, ⟨cell, k, e3, e2, e4, e5, e7⟩⟩
theorem own_sz256 {n : Nat} (h : n < 2 ^ 31) (e : n.toInt32 = 256) : n = 256 := by
  have h1 := len_toInt h
  rw [e] at h1
  have h2 : (256 : Int32).toInt = 256 := by decide
  omega
theorem own_range (x : Int32) (h1 : ¬ x < (-128 : Int32)) (h2 : ¬ (127 : Int32) < x) : ¬ (x + (128 : Int32)) < 0 ∧ (x + (128 : Int32)).toNatClampNeg < 256 := by
  have e1 : (-128 : Int32).toInt = -128 := by decide
  have e2 : (127 : Int32).toInt = 127 := by decide
  have e3 : (128 : Int32).toInt = 128 := by decide
  rw [Int32.lt_iff_toInt_lt, e1] at h1
  rw [Int32.lt_iff_toInt_lt, e2] at h2
  have h := c_iadd x 128
  have r := rng32 (x + 128)
  rw [e3] at h
  have g : (x + 128).toInt = x.toInt + 128 := by omega
  refine ⟨?_, ?_⟩
  · rw [Int32.lt_iff_toInt_lt, g]
    show ¬ x.toInt + 128 < 0
    omega
  · show (x + 128).toInt.toNat < 256
    omega
theorem own_sex (x y : Int32) (M F : Addr) (hMF : ¬ M = F) (h : ¬ (x &&& (1 : Int32)) = (y &&& (1 : Int32))) : ¬ ((if (x &&& (1 : Int32)) = (0 : Int32) then M else F) = (if (y &&& (1 : Int32)) = (0 : Int32) then M else F)) := by
  rcases and_one x with hx | hx <;> rcases and_one y with hy | hy
  · exact absurd (hx.trans hy.symm) h
  · rw [hx, hy, if_pos rfl, if_neg (by decide)]; exact hMF
  · rw [hx, hy, if_neg (by decide), if_pos rfl]; exact fun q => hMF q.symm
  · exact absurd (hx.trans hy.symm) h
theorem own_comm (a b : Int32) : (if a = b then (1 : Int32) else 0) = (if b = a then (1 : Int32) else 0) := by
  by_cases h : a = b
  · rw [if_pos h, if_pos h.symm]
  · rw [if_neg h, if_neg (fun q => h q.symm)]
theorem d6_0 : decode jdk_18_method_1_code 0 = .ok (.aload_n 0, 1) := by decide +kernel
theorem d6_1 : decode jdk_18_method_1_code 1 = .ok (.invokespecial 1, 3) := by decide +kernel
theorem d6_4 : decode jdk_18_method_1_code 4 = .ok (.return_, 1) := by decide +kernel
theorem pn_6 : plainName "java/lang/Number" = true := by first | (simp [plainName, overriddenIn]; done) | decide +kernel
theorem ef_6 (m : MethodId) (x0 : Addr) : entryFrame m #[(.ref x0)] 1 = mkF m 0 #[.val (.ref x0)] [] := by first | (simp [entryFrame, mkF, argsToLocals, Value.category]; done) | rfl
def Q6 (Z : State) (a1 : Addr) (h0 : Heap) (n0 : Nat) (v : Option Value) (h : Heap) (L : List Loc) : Prop := v = none ∧ Fr n0 L ∧ h = h0
set_option maxRecDepth 65536 in
set_option maxHeartbeats 40000000 in
theorem rm6 (l : Launch) (Z : State) (a0 : Array Value) (hw : ∀ d ∈ tables_1, d.before a0 Z = true) (ws : List Jvm.Cond) (a1 : Addr) (h0 : Heap) (n0 : Nat) (Z0 : n0 ≤ h0.size) :
    MetFree l (⟨"java/lang/Number", "<init>", "()V"⟩ : MethodName) (head1 (Jvm.Cond.code (⟨"java/lang/Number", "<init>", "()V"⟩ : MethodName) jdk_18_method_1_code 1 none :: ws) ({ frames := 1, cells := 0, slots := 0, locals := 12 } : Room)) (fun a U => a = #[(.ref a1)] ∧ Z.Warmed39 U.vm ∧ U.heap = h0) (fun _ _ _ _ _ => True) (fun _ U o U' => ∃ v L, o = .returned v ∧ Q6 Z a1 h0 n0 v U'.heap L ∧ FrameEnd U o U' L ({ frames := 1, cells := 0, slots := 0, locals := 12 } : Room).cells ({ frames := 1, cells := 0, slots := 0, locals := 12 } : Room).slots) := by
  refine MetFree.of_bodySF (plainFor_of_name pn_6) hisR ?_
  intro p e s m args below meth c s₁ Bd hml0 hP hK
  obtain ⟨rfl, hZ, hh⟩ := hP
  have hx := Bd.exec
  have hby := Bd.bytes
  have hml : c.maxLocals = 1 := hml0
  have hown : s.vm.findClass "java/lang/Number" = some m.cls := findClass_of_methodNamed Bd.named
  have hnm := (name_of_methodNamed Bd.named Bd.method).1
  have X0 : Stand p l e ({ frames := 1, cells := 0, slots := 0, locals := 12 } : Room) s m #[(.ref a1)] below meth c s₁ [] 0 0 := Stand.of_body Bd
  have e0 : s₁.heap = h0 := by rw [← hh, Bd.state]; rfl
  have N0 := Fr.nil n0
  have pre0 : ∀ t, Steps p.tables e below (s₁.setTop (mkF m 0 #[.val (.ref a1)] [])) t → Steps p.tables e below (s₁.setTop (entryFrame m #[(.ref a1)] 1)) t := fun t k => castTop (ef_6 m a1) k
  obtain ⟨T2, X2, e2, st2⟩ := initO X0 hx hZ hown (hw _ (List.mem_of_getElem? (i := 47) rfl)) (hw _ (List.mem_of_getElem? (i := 10) rfl)) (hw _ (List.mem_of_getElem? (i := 11) rfl)) e0 (g := (mkF m 1 #[.val (.ref a1)] [(.ref a1)])) rfl (by rw [hml]; rfl) rfl (hb hby d6_1) (by decide) (W := 0) (by show 2 * 0 + _ ≤ _; exact Nat.le_of_eq rfl) (by decide)
  obtain ⟨fs, hr, hrun, hended, hW, hsame⟩ := X2.leave (v := none) (fun _ => rfl)
  refine ⟨_, _, pre0 _ ?_, hrun, hended, _, _, rfl, ?_, ⟨_, rfl⟩, hW, hsame.mono (by decide) (by decide)⟩
  · show Steps p.tables e below (s₁.setTop (mkF m 0 #[.val (.ref a1)] [])) _
    refine XS.aloadN X0.here hx rfl (hb hby d6_0) rfl rfl ?_
    show Steps p.tables e below (s₁.setTop (mkF m 1 #[.val (.ref a1)] [(.ref a1)])) _
    refine st2 _ ?_
    show Steps p.tables e below (T2.setTop (mkF m 4 #[.val (.ref a1)] [])) _
    exact X2.returnOut hx Bd.returns (hb hby d6_4) hr
  · show Q6 Z a1 h0 n0 _ T2.heap _
    rw [e2]
    exact ⟨rfl, N0, rfl⟩
theorem d1_0 : decode prog_55_method_1_code 0 = .ok (.aload_n 0, 1) := by decide +kernel
theorem d1_1 : decode prog_55_method_1_code 1 = .ok (.invokespecial 1, 3) := by decide +kernel
theorem d1_4 : decode prog_55_method_1_code 4 = .ok (.aload_n 0, 1) := by decide +kernel
theorem d1_5 : decode prog_55_method_1_code 5 = .ok (.aload_n 1, 1) := by decide +kernel
theorem d1_6 : decode prog_55_method_1_code 6 = .ok (.putfield 7, 3) := by decide +kernel
theorem d1_9 : decode prog_55_method_1_code 9 = .ok (.aload_n 0, 1) := by decide +kernel
theorem d1_10 : decode prog_55_method_1_code 10 = .ok (.iload_n 2, 1) := by decide +kernel
theorem d1_11 : decode prog_55_method_1_code 11 = .ok (.putfield 13, 3) := by decide +kernel
theorem d1_14 : decode prog_55_method_1_code 14 = .ok (.return_, 1) := by decide +kernel
theorem pn_1 : plainName "com/example/vestbook/vestbook/engine/Life" = true := by first | (simp [plainName, overriddenIn]; done) | decide +kernel
theorem ef_1 (m : MethodId) (x0 : Addr) (x1 : Addr) (x2 : Int32) : entryFrame m #[(.ref x0), (.ref x1), (.int x2)] 3 = mkF m 0 #[.val (.ref x0), .val (.ref x1), .val (.int x2)] [] := by first | (simp [entryFrame, mkF, argsToLocals, Value.category]; done) | rfl
def Q1 (Z : State) (a1 : Addr) (a2 : Addr) (p3 : Int32) (u_sex : Value) (u_age : Value) (h0 : Heap) (n0 : Nat) (v : Option Value) (h : Heap) (L : List Loc) : Prop := v = none ∧ Fr n0 L ∧ Keep h0 h [a1] ∧ Exa Z h a1 "com/example/vestbook/vestbook/engine/Life" ∧ Fld Z h a1 "com/example/vestbook/vestbook/engine/Life" "sex" "Lcom/example/vestbook/vestbook/engine/Sex;" (.ref a2) ∧ Fld Z h a1 "com/example/vestbook/vestbook/engine/Life" "age" "I" (.int p3)
set_option maxRecDepth 65536 in
set_option maxHeartbeats 40000000 in
theorem rm1 (l : Launch) (Z : State) (a0 : Array Value) (hw : ∀ d ∈ tables_1, d.before a0 Z = true) (ws : List Jvm.Cond) (a1 : Addr) (a2 : Addr) (p3 : Int32) (u_sex : Value) (u_age : Value) (h0 : Heap) (n0 : Nat) (Z0 : n0 ≤ h0.size) (g_a1 : n0 ≤ a1) (E_a1 : Exa Z h0 a1 "com/example/vestbook/vestbook/engine/Life") (F_sex_a1 : Fld Z h0 a1 "com/example/vestbook/vestbook/engine/Life" "sex" "Lcom/example/vestbook/vestbook/engine/Sex;" u_sex) (F_age_a1 : Fld Z h0 a1 "com/example/vestbook/vestbook/engine/Life" "age" "I" u_age) :
    MetFree l (⟨"com/example/vestbook/vestbook/engine/Life", "<init>", "(Lcom/example/vestbook/vestbook/engine/Sex;I)V"⟩ : MethodName) (head1 (Jvm.Cond.code (⟨"com/example/vestbook/vestbook/engine/Life", "<init>", "(Lcom/example/vestbook/vestbook/engine/Sex;I)V"⟩ : MethodName) prog_55_method_1_code 3 none :: ws) ({ frames := 1, cells := 0, slots := 0, locals := 12 } : Room)) (fun a U => a = #[(.ref a1), (.ref a2), (.int p3)] ∧ Z.Warmed39 U.vm ∧ U.heap = h0) (fun _ _ _ _ _ => True) (fun _ U o U' => ∃ v L, o = .returned v ∧ Q1 Z a1 a2 p3 u_sex u_age h0 n0 v U'.heap L ∧ FrameEnd U o U' L ({ frames := 1, cells := 0, slots := 0, locals := 12 } : Room).cells ({ frames := 1, cells := 0, slots := 0, locals := 12 } : Room).slots) := by
  refine MetFree.of_bodySF (plainFor_of_name pn_1) hisR ?_
  intro p e s m args below meth c s₁ Bd hml0 hP hK
  obtain ⟨rfl, hZ, hh⟩ := hP
  have hx := Bd.exec
  have hby := Bd.bytes
  have hml : c.maxLocals = 3 := hml0
  have hown : s.vm.findClass "com/example/vestbook/vestbook/engine/Life" = some m.cls := findClass_of_methodNamed Bd.named
  have hnm := (name_of_methodNamed Bd.named Bd.method).1
  have X0 : Stand p l e ({ frames := 1, cells := 0, slots := 0, locals := 12 } : Room) s m #[(.ref a1), (.ref a2), (.int p3)] below meth c s₁ [] 0 0 := Stand.of_body Bd
  have e0 : s₁.heap = h0 := by rw [← hh, Bd.state]; rfl
  have N0 := Fr.nil n0
  have pre0 : ∀ t, Steps p.tables e below (s₁.setTop (mkF m 0 #[.val (.ref a1), .val (.ref a2), .val (.int p3)] [])) t → Steps p.tables e below (s₁.setTop (entryFrame m #[(.ref a1), (.ref a2), (.int p3)] 3)) t := fun t k => castTop (ef_1 m a1 a2 p3) k
  obtain ⟨T4, X4, e4, st4⟩ := initO X0 hx hZ hown (hw _ (List.mem_of_getElem? (i := 9) rfl)) (hw _ (List.mem_of_getElem? (i := 10) rfl)) (hw _ (List.mem_of_getElem? (i := 11) rfl)) e0 (g := (mkF m 1 #[.val (.ref a1), .val (.ref a2), .val (.int p3)] [(.ref a1)])) rfl (by rw [hml]; rfl) rfl (hb hby d1_1) (by decide) (W := 0) (by show 2 * 0 + _ ≤ _; exact Nat.le_of_eq rfl) (by decide)
  obtain ⟨T5, h5, X5, e5, W5, st5⟩ := putF X4 hx hZ hown (host := "") (Or.inl (hw _ (List.mem_of_getElem? (i := 12) rfl))) Via.refl e4 F_sex_a1 E_a1 (Or.inr ⟨(hw _ (List.mem_of_getElem? (i := 13) rfl)), rfl, hnm⟩) (hw _ (List.mem_of_getElem? (i := 4) rfl)) (ty := (.object "com/example/vestbook/vestbook/engine/Sex")) (by decide) rfl rfl (g := (mkF m 6 #[.val (.ref a1), .val (.ref a2), .val (.int p3)] [(.ref a2), (.ref a1)])) rfl rfl (hb hby d1_6)
  have Z5 : n0 ≤ h5.size := Nat.le_trans Z0 (Keep.of_wr W5).1
  have KK5 := Keep.wr (Keep.refl h0 [a1]) W5 (Or.inl (List.mem_of_getElem? (i := 0) rfl))
  have N5 := Fr.snoc X5 N0 g_a1
  have Fw5 := Fld.same W5 F_sex_a1
  have f7 := (Exa.wr W5 E_a1)
  have f8 := (Fld.other W5 F_age_a1 (Or.inr (slot_ne (Or.inr (hw _ (List.mem_of_getElem? (i := 15) rfl))) (Or.inr (hw _ (List.mem_of_getElem? (i := 13) rfl))) (by decide) (t := .int) (t' := (.object "com/example/vestbook/vestbook/engine/Sex")) (by decide) (by decide))))
  obtain ⟨T6, h6, X6, e6, W6, st6⟩ := putF X5 hx hZ hown (host := "") (Or.inl (hw _ (List.mem_of_getElem? (i := 14) rfl))) Via.refl e5 f8 f7 (Or.inr ⟨(hw _ (List.mem_of_getElem? (i := 15) rfl)), rfl, hnm⟩) (hw _ (List.mem_of_getElem? (i := 4) rfl)) (ty := .int) (by decide) rfl rfl (g := (mkF m 11 #[.val (.ref a1), .val (.ref a2), .val (.int p3)] [(.int p3), (.ref a1)])) rfl rfl (hb hby d1_11)
  have Z6 : n0 ≤ h6.size := Nat.le_trans Z5 (Keep.of_wr W6).1
  have KK6 := Keep.wr KK5 W6 (Or.inl (List.mem_of_getElem? (i := 0) rfl))
  have N6 := Fr.snoc X6 N5 g_a1
  have Fw6 := Fld.same W6 f8
  obtain ⟨fs, hr, hrun, hended, hW, hsame⟩ := X6.leave (v := none) (fun _ => rfl)
  have f9 := (Exa.wr W6 f7)
  have f10 := (Fld.other W6 Fw5 (Or.inr (slot_ne (Or.inr (hw _ (List.mem_of_getElem? (i := 13) rfl))) (Or.inr (hw _ (List.mem_of_getElem? (i := 15) rfl))) (by decide) (t := (.object "com/example/vestbook/vestbook/engine/Sex")) (t' := .int) (by decide) (by decide))))
  refine ⟨_, _, pre0 _ ?_, hrun, hended, _, _, rfl, ?_, ⟨_, rfl⟩, hW, hsame.mono (by decide) (by decide)⟩
  · show Steps p.tables e below (s₁.setTop (mkF m 0 #[.val (.ref a1), .val (.ref a2), .val (.int p3)] [])) _
    refine XS.aloadN X0.here hx rfl (hb hby d1_0) rfl rfl ?_
    show Steps p.tables e below (s₁.setTop (mkF m 1 #[.val (.ref a1), .val (.ref a2), .val (.int p3)] [(.ref a1)])) _
    refine st4 _ ?_
    show Steps p.tables e below (T4.setTop (mkF m 4 #[.val (.ref a1), .val (.ref a2), .val (.int p3)] [])) _
    refine XS.aloadN X4.here hx rfl (hb hby d1_4) rfl rfl ?_
    show Steps p.tables e below (T4.setTop (mkF m 5 #[.val (.ref a1), .val (.ref a2), .val (.int p3)] [(.ref a1)])) _
    refine XS.aloadN X4.here hx rfl (hb hby d1_5) rfl rfl ?_
    show Steps p.tables e below (T4.setTop (mkF m 6 #[.val (.ref a1), .val (.ref a2), .val (.int p3)] [(.ref a2), (.ref a1)])) _
    refine st5 _ ?_
    show Steps p.tables e below (T5.setTop (mkF m 9 #[.val (.ref a1), .val (.ref a2), .val (.int p3)] [])) _
    refine XS.aloadN X5.here hx rfl (hb hby d1_9) rfl rfl ?_
    show Steps p.tables e below (T5.setTop (mkF m 10 #[.val (.ref a1), .val (.ref a2), .val (.int p3)] [(.ref a1)])) _
    refine XS.iloadN X5.here hx rfl (hb hby d1_10) rfl ?_
    show Steps p.tables e below (T5.setTop (mkF m 11 #[.val (.ref a1), .val (.ref a2), .val (.int p3)] [(.int p3), (.ref a1)])) _
    refine st6 _ ?_
    show Steps p.tables e below (T6.setTop (mkF m 14 #[.val (.ref a1), .val (.ref a2), .val (.int p3)] [])) _
    exact X6.returnOut hx Bd.returns (hb hby d1_14) hr
  · show Q1 Z a1 a2 p3 u_sex u_age h0 n0 _ T6.heap _
    rw [e6]
    exact ⟨rfl, N6, KK6, f9, f10, Fw6⟩
theorem d5_0 : decode jdk_33_method_23_code 0 = .ok (.aload_n 0, 1) := by decide +kernel
theorem d5_1 : decode jdk_33_method_23_code 1 = .ok (.invokespecial 202, 3) := by decide +kernel
theorem d5_4 : decode jdk_33_method_23_code 4 = .ok (.aload_n 0, 1) := by decide +kernel
theorem d5_5 : decode jdk_33_method_23_code 5 = .ok (.iload_n 1, 1) := by decide +kernel
theorem d5_6 : decode jdk_33_method_23_code 6 = .ok (.putfield 205, 3) := by decide +kernel
theorem d5_9 : decode jdk_33_method_23_code 9 = .ok (.return_, 1) := by decide +kernel
theorem pn_5 : plainName "java/lang/Integer" = true := by first | (simp [plainName, overriddenIn]; done) | decide +kernel
theorem pd_5_0 : parseMethodDescriptor "()V" = some ⟨[], none⟩ := by decide +kernel
theorem ef_5 (m : MethodId) (x0 : Addr) (x1 : Int32) : entryFrame m #[(.ref x0), (.int x1)] 2 = mkF m 0 #[.val (.ref x0), .val (.int x1)] [] := by first | (simp [entryFrame, mkF, argsToLocals, Value.category]; done) | rfl
def Q5 (Z : State) (a1 : Addr) (p2 : Int32) (u_value : Value) (h0 : Heap) (n0 : Nat) (v : Option Value) (h : Heap) (L : List Loc) : Prop := v = none ∧ Fr n0 L ∧ Keep h0 h [a1] ∧ Exa Z h a1 "java/lang/Integer" ∧ Fld Z h a1 "java/lang/Integer" "value" "I" (.int p2)
set_option maxRecDepth 65536 in
set_option maxHeartbeats 40000000 in
theorem rm5 (l : Launch) (Z : State) (a0 : Array Value) (hw : ∀ d ∈ tables_1, d.before a0 Z = true) (ws : List Jvm.Cond) (a1 : Addr) (p2 : Int32) (u_value : Value) (h0 : Heap) (n0 : Nat) (Z0 : n0 ≤ h0.size) (g_a1 : n0 ≤ a1) (E_a1 : Exa Z h0 a1 "java/lang/Integer") (F_value_a1 : Fld Z h0 a1 "java/lang/Integer" "value" "I" u_value) :
    MetFree l (⟨"java/lang/Integer", "<init>", "(I)V"⟩ : MethodName) (head1 (Jvm.Cond.code (⟨"java/lang/Integer", "<init>", "(I)V"⟩ : MethodName) jdk_33_method_23_code 2 none :: ws) ({ frames := 2, cells := 0, slots := 0, locals := 24 } : Room)) (fun a U => a = #[(.ref a1), (.int p2)] ∧ Z.Warmed39 U.vm ∧ U.heap = h0) (fun _ _ _ _ _ => True) (fun _ U o U' => ∃ v L, o = .returned v ∧ Q5 Z a1 p2 u_value h0 n0 v U'.heap L ∧ FrameEnd U o U' L ({ frames := 2, cells := 0, slots := 0, locals := 24 } : Room).cells ({ frames := 2, cells := 0, slots := 0, locals := 24 } : Room).slots) := by
  refine MetFree.of_bodySF (plainFor_of_name pn_5) hisR ?_
  intro p e s m args below meth c s₁ Bd hml0 hP hK
  obtain ⟨rfl, hZ, hh⟩ := hP
  have hx := Bd.exec
  have hby := Bd.bytes
  have hml : c.maxLocals = 2 := hml0
  have hown : s.vm.findClass "java/lang/Integer" = some m.cls := findClass_of_methodNamed Bd.named
  have hnm := (name_of_methodNamed Bd.named Bd.method).1
  have X0 : Stand p l e ({ frames := 2, cells := 0, slots := 0, locals := 24 } : Room) s m #[(.ref a1), (.int p2)] below meth c s₁ [] 0 0 := Stand.of_body Bd
  have e0 : s₁.heap = h0 := by rw [← hh, Bd.state]; rfl
  have N0 := Fr.nil n0
  have pre0 : ∀ t, Steps p.tables e below (s₁.setTop (mkF m 0 #[.val (.ref a1), .val (.int p2)] [])) t → Steps p.tables e below (s₁.setTop (entryFrame m #[(.ref a1), (.int p2)] 2)) t := fun t k => castTop (ef_5 m a1 p2) k
  obtain ⟨_, _, ⟨T3, L3, k3, n3⟩, -, X3, ⟨Lc3, hQ3, l3, y3, z3⟩, st3⟩ := X0.specialBack hx (y := (⟨"java/lang/Number", "<init>", "()V"⟩ : MethodName)) rfl hown (mvT hZ (hw _ (List.mem_of_getElem? (i := 41) rfl))) (mvT hZ (hw _ (List.mem_of_getElem? (i := 42) rfl))) (mvT hZ (hw _ (List.mem_of_getElem? (i := 46) rfl))) (by decide) (backOf (W := 0) (rm6 l Z a0 hw [] a1 h0 n0 Z0) hZ (hw _ (List.mem_of_getElem? (i := 46) rfl)) (hw _ (List.mem_of_getElem? (i := 45) rfl)) (by decide) (by decide)) (g := (mkF m 1 #[.val (.ref a1), .val (.int p2)] [(.ref a1)])) rfl (by rw [hml]; rfl) (Steps.refl _) (a := a1) (argsL := []) (rest := []) (lenOf pd_5_0 rfl) rfl (by show 2 * 0 + _ ≤ _; exact Nat.le_of_eq rfl) (hb hby d5_1) (fun _ _ => ⟨rfl, e0, (by decide : 0 + 0 ≤ _), (by decide : 0 + 0 ≤ _)⟩)
  dsimp only [Pt.U, Pt.locs, Pt.cells, Pt.slots] at X3 l3 y3 z3 st3 hQ3
  subst l3 y3 z3
  obtain ⟨rfl, N3q, e3⟩ := hQ3
  have N3 := Fr.app N0 N3q
  obtain ⟨T4, h4, X4, e4, W4, st4⟩ := putF X3 hx hZ hown (host := "") (Or.inl (hw _ (List.mem_of_getElem? (i := 48) rfl))) Via.refl e3 F_value_a1 E_a1 (Or.inr ⟨(hw _ (List.mem_of_getElem? (i := 49) rfl)), rfl, hnm⟩) (hw _ (List.mem_of_getElem? (i := 36) rfl)) (ty := .int) (by decide) rfl rfl (g := (mkF m 6 #[.val (.ref a1), .val (.int p2)] [(.int p2), (.ref a1)])) rfl rfl (hb hby d5_6)
  have Z4 : n0 ≤ h4.size := Nat.le_trans Z0 (Keep.of_wr W4).1
  have KK4 := Keep.wr (Keep.refl h0 [a1]) W4 (Or.inl (List.mem_of_getElem? (i := 0) rfl))
  have N4 := Fr.snoc X4 N3 g_a1
  have Fw4 := Fld.same W4 F_value_a1
  obtain ⟨fs, hr, hrun, hended, hW, hsame⟩ := X4.leave (v := none) (fun _ => rfl)
  have f5 := (Exa.wr W4 E_a1)
  refine ⟨_, _, pre0 _ ?_, hrun, hended, _, _, rfl, ?_, ⟨_, rfl⟩, hW, hsame.mono (by decide) (by decide)⟩
  · show Steps p.tables e below (s₁.setTop (mkF m 0 #[.val (.ref a1), .val (.int p2)] [])) _
    refine XS.aloadN X0.here hx rfl (hb hby d5_0) rfl rfl ?_
    show Steps p.tables e below (s₁.setTop (mkF m 1 #[.val (.ref a1), .val (.int p2)] [(.ref a1)])) _
    refine st3.trans ?_
    show Steps p.tables e below (T3.setTop (mkF m 4 #[.val (.ref a1), .val (.int p2)] [])) _
    refine XS.aloadN X3.here hx rfl (hb hby d5_4) rfl rfl ?_
    show Steps p.tables e below (T3.setTop (mkF m 5 #[.val (.ref a1), .val (.int p2)] [(.ref a1)])) _
    refine XS.iloadN X3.here hx rfl (hb hby d5_5) rfl ?_
    show Steps p.tables e below (T3.setTop (mkF m 6 #[.val (.ref a1), .val (.int p2)] [(.int p2), (.ref a1)])) _
    refine st4 _ ?_
    show Steps p.tables e below (T4.setTop (mkF m 9 #[.val (.ref a1), .val (.int p2)] [])) _
    exact X4.returnOut hx Bd.returns (hb hby d5_9) hr
  · show Q5 Z a1 p2 u_value h0 n0 _ T4.heap _
    rw [e4]
    exact ⟨rfl, N4, KK4, f5, Fw4⟩
theorem d3_0 : decode prog_55_method_4_code 0 = .ok (.aload_n 1, 1) := by decide +kernel
theorem d3_1 : decode prog_55_method_4_code 1 = .ok (.instanceof 8, 3) := by decide +kernel
theorem d3_4 : decode prog_55_method_4_code 4 = .ok (.ifCond .eq 34, 3) := by decide +kernel
theorem d3_38 : decode prog_55_method_4_code 38 = .ok (.iconst 0, 1) := by decide +kernel
theorem d3_39 : decode prog_55_method_4_code 39 = .ok (.ireturn, 1) := by decide +kernel
theorem pn_3n : plainName "com/example/vestbook/vestbook/engine/Life" = true := by first | (simp [plainName, overriddenIn]; done) | decide +kernel
theorem ef_3n (m : MethodId) (x0 : Addr) : entryFrame m #[(.ref x0), .null] 3 = mkF m 0 #[.val (.ref x0), .val .null, .unset] [] := by first | (simp [entryFrame, mkF, argsToLocals, Value.category]; done) | rfl
def Q3n (Z : State) (a1 : Addr) (h0 : Heap) (n0 : Nat) (v : Option Value) (h : Heap) (L : List Loc) : Prop := v = some (.int (0 : Int32)) ∧ Fr n0 L ∧ h = h0
set_option maxRecDepth 65536 in
set_option maxHeartbeats 40000000 in
theorem rm3n (l : Launch) (Z : State) (a0 : Array Value) (hw : ∀ d ∈ tables_1, d.before a0 Z = true) (ws : List Jvm.Cond) (a1 : Addr) (h0 : Heap) (n0 : Nat) (Z0 : n0 ≤ h0.size) :
    MetFree l (⟨"com/example/vestbook/vestbook/engine/Life", "equals", "(Ljava/lang/Object;)Z"⟩ : MethodName) (head1 (Jvm.Cond.code (⟨"com/example/vestbook/vestbook/engine/Life", "equals", "(Ljava/lang/Object;)Z"⟩ : MethodName) prog_55_method_4_code 3 (some .boolean) :: ws) ({ frames := 0, cells := 0, slots := 0, locals := 0 } : Room)) (fun a U => a = #[(.ref a1), .null] ∧ Z.Warmed39 U.vm ∧ U.heap = h0) (fun _ _ _ _ _ => True) (fun _ U o U' => ∃ v L, o = .returned v ∧ Q3n Z a1 h0 n0 v U'.heap L ∧ FrameEnd U o U' L ({ frames := 0, cells := 0, slots := 0, locals := 0 } : Room).cells ({ frames := 0, cells := 0, slots := 0, locals := 0 } : Room).slots) := by
  refine MetFree.of_bodySF (plainFor_of_name pn_3n) hisR ?_
  intro p e s m args below meth c s₁ Bd hml0 hP hK
  obtain ⟨rfl, hZ, hh⟩ := hP
  have hx := Bd.exec
  have hby := Bd.bytes
  have hml : c.maxLocals = 3 := hml0
  have hown : s.vm.findClass "com/example/vestbook/vestbook/engine/Life" = some m.cls := findClass_of_methodNamed Bd.named
  have hnm := (name_of_methodNamed Bd.named Bd.method).1
  have X0 : Stand p l e ({ frames := 0, cells := 0, slots := 0, locals := 0 } : Room) s m #[(.ref a1), .null] below meth c s₁ [] 0 0 := Stand.of_body Bd
  have e0 : s₁.heap = h0 := by rw [← hh, Bd.state]; rfl
  have N0 := Fr.nil n0
  have pre0 : ∀ t, Steps p.tables e below (s₁.setTop (mkF m 0 #[.val (.ref a1), .val .null, .unset] [])) t → Steps p.tables e below (s₁.setTop (entryFrame m #[(.ref a1), .null] 3)) t := fun t k => castTop (ef_3n m a1) k
  obtain ⟨fs, hr, hrun, hended, hW, hsame⟩ := X0.leave (v := some (.int (0 : Int32))) (fun h => by rw [Bd.returns] at h; cases h)
  refine ⟨_, _, pre0 _ ?_, hrun, hended, _, _, rfl, ?_, ⟨_, rfl⟩, hW, hsame.mono (by decide) (by decide)⟩
  · show Steps p.tables e below (s₁.setTop (mkF m 0 #[.val (.ref a1), .val .null, .unset] [])) _
    refine XS.aloadN X0.here hx rfl (hb hby d3_0) rfl rfl ?_
    show Steps p.tables e below (s₁.setTop (mkF m 1 #[.val (.ref a1), .val .null, .unset] [.null])) _
    refine X0.instanceofNull hx (g := (mkF m 1 #[.val (.ref a1), .val .null, .unset] [.null])) rfl rfl (hb hby d3_1) _ ?_
    show Steps p.tables e below (s₁.setTop (mkF m 4 #[.val (.ref a1), .val .null, .unset] [(.int (0 : Int32))])) _
    refine XS.ifYes X0.here hx rfl (pc0 := 4) (pc' := 38) rfl (hb hby d3_4) rfl ((if0 _ _).trans (teq (by decide : (0 : Int32) = (0 : Int32))).1) (by decide) (by decide) ?_
    show Steps p.tables e below (s₁.setTop (mkF m 38 #[.val (.ref a1), .val .null, .unset] [])) _
    refine XS.iconst X0.here hx rfl (hb hby d3_38) ?_
    show Steps p.tables e below (s₁.setTop (mkF m 39 #[.val (.ref a1), .val .null, .unset] [(.int (0 : Int32))])) _
    exact retN X0 hx (t := .boolean) Bd.returns (by simp) (hb hby d3_39) hr
  · show Q3n Z a1 h0 n0 _ s₁.heap _
    rw [e0]
    exact ⟨rfl, N0, rfl⟩
theorem pn_3i : plainName "com/example/vestbook/vestbook/engine/Life" = true := by first | (simp [plainName, overriddenIn]; done) | decide +kernel
theorem ef_3i (m : MethodId) (x0 : Addr) (x1 : Addr) : entryFrame m #[(.ref x0), (.ref x1)] 3 = mkF m 0 #[.val (.ref x0), .val (.ref x1), .unset] [] := by first | (simp [entryFrame, mkF, argsToLocals, Value.category]; done) | rfl
def Q3i (Z : State) (a1 : Addr) (a2 : Addr) (h0 : Heap) (n0 : Nat) (v : Option Value) (h : Heap) (L : List Loc) : Prop := v = some (.int (0 : Int32)) ∧ Fr n0 L ∧ h = h0
set_option maxRecDepth 65536 in
set_option maxHeartbeats 40000000 in
theorem rm3i (l : Launch) (Z : State) (a0 : Array Value) (hw : ∀ d ∈ tables_1, d.before a0 Z = true) (ws : List Jvm.Cond) (a1 : Addr) (a2 : Addr) (h0 : Heap) (n0 : Nat) (Z0 : n0 ≤ h0.size) (E_a2 : Exa Z h0 a2 "java/lang/Integer") (hno : own_No Z "java/lang/Integer" "com/example/vestbook/vestbook/engine/Life") :
    MetFree l (⟨"com/example/vestbook/vestbook/engine/Life", "equals", "(Ljava/lang/Object;)Z"⟩ : MethodName) (head1 (Jvm.Cond.code (⟨"com/example/vestbook/vestbook/engine/Life", "equals", "(Ljava/lang/Object;)Z"⟩ : MethodName) prog_55_method_4_code 3 (some .boolean) :: ws) ({ frames := 0, cells := 0, slots := 0, locals := 0 } : Room)) (fun a U => a = #[(.ref a1), (.ref a2)] ∧ Z.Warmed39 U.vm ∧ U.heap = h0) (fun _ _ _ _ _ => True) (fun _ U o U' => ∃ v L, o = .returned v ∧ Q3i Z a1 a2 h0 n0 v U'.heap L ∧ FrameEnd U o U' L ({ frames := 0, cells := 0, slots := 0, locals := 0 } : Room).cells ({ frames := 0, cells := 0, slots := 0, locals := 0 } : Room).slots) := by
  refine MetFree.of_bodySF (plainFor_of_name pn_3i) hisR ?_
  intro p e s m args below meth c s₁ Bd hml0 hP hK
  obtain ⟨rfl, hZ, hh⟩ := hP
  have hx := Bd.exec
  have hby := Bd.bytes
  have hml : c.maxLocals = 3 := hml0
  have hown : s.vm.findClass "com/example/vestbook/vestbook/engine/Life" = some m.cls := findClass_of_methodNamed Bd.named
  have hnm := (name_of_methodNamed Bd.named Bd.method).1
  have X0 : Stand p l e ({ frames := 0, cells := 0, slots := 0, locals := 0 } : Room) s m #[(.ref a1), (.ref a2)] below meth c s₁ [] 0 0 := Stand.of_body Bd
  have e0 : s₁.heap = h0 := by rw [← hh, Bd.state]; rfl
  have N0 := Fr.nil n0
  have pre0 : ∀ t, Steps p.tables e below (s₁.setTop (mkF m 0 #[.val (.ref a1), .val (.ref a2), .unset] [])) t → Steps p.tables e below (s₁.setTop (entryFrame m #[(.ref a1), (.ref a2)] 3)) t := fun t k => castTop (ef_3i m a1 a2) k
  obtain ⟨T3, X3, e3, st3⟩ := instNo X0 hx hZ hown (hw _ (List.mem_of_getElem? (i := 21) rfl)) e0 E_a2 hno (g := (mkF m 1 #[.val (.ref a1), .val (.ref a2), .unset] [(.ref a2)])) rfl rfl (hb hby d3_1)
  obtain ⟨fs, hr, hrun, hended, hW, hsame⟩ := X3.leave (v := some (.int (0 : Int32))) (fun h => by rw [Bd.returns] at h; cases h)
  refine ⟨_, _, pre0 _ ?_, hrun, hended, _, _, rfl, ?_, ⟨_, rfl⟩, hW, hsame.mono (by decide) (by decide)⟩
  · show Steps p.tables e below (s₁.setTop (mkF m 0 #[.val (.ref a1), .val (.ref a2), .unset] [])) _
    refine XS.aloadN X0.here hx rfl (hb hby d3_0) rfl rfl ?_
    show Steps p.tables e below (s₁.setTop (mkF m 1 #[.val (.ref a1), .val (.ref a2), .unset] [(.ref a2)])) _
    refine st3 _ ?_
    show Steps p.tables e below (T3.setTop (mkF m 4 #[.val (.ref a1), .val (.ref a2), .unset] [(.int (0 : Int32))])) _
    refine XS.ifYes X3.here hx rfl (pc0 := 4) (pc' := 38) rfl (hb hby d3_4) rfl ((if0 _ _).trans (teq (by decide : (0 : Int32) = (0 : Int32))).1) (by decide) (by decide) ?_
    show Steps p.tables e below (T3.setTop (mkF m 38 #[.val (.ref a1), .val (.ref a2), .unset] [])) _
    refine XS.iconst X3.here hx rfl (hb hby d3_38) ?_
    show Steps p.tables e below (T3.setTop (mkF m 39 #[.val (.ref a1), .val (.ref a2), .unset] [(.int (0 : Int32))])) _
    exact retN X3 hx (t := .boolean) Bd.returns (by simp) (hb hby d3_39) hr
  · show Q3i Z a1 a2 h0 n0 _ T3.heap _
    rw [e3]
    exact ⟨rfl, N0, rfl⟩
def own_f3 (w5 : Addr) (w7 : Addr) (w11 : Int32) (w13 : Int32) : Int32 := (if w5 = w7 then (if w11 = w13 then (1 : Int32) else (0 : Int32)) else (0 : Int32))
theorem d3_7 : decode prog_55_method_4_code 7 = .ok (.aload_n 1, 1) := by decide +kernel
theorem d3_8 : decode prog_55_method_4_code 8 = .ok (.checkcast 8, 3) := by decide +kernel
theorem d3_11 : decode prog_55_method_4_code 11 = .ok (.astore_n 2, 1) := by decide +kernel
theorem d3_12 : decode prog_55_method_4_code 12 = .ok (.aload_n 0, 1) := by decide +kernel
theorem d3_13 : decode prog_55_method_4_code 13 = .ok (.getfield 7, 3) := by decide +kernel
theorem d3_16 : decode prog_55_method_4_code 16 = .ok (.aload_n 2, 1) := by decide +kernel
theorem d3_17 : decode prog_55_method_4_code 17 = .ok (.getfield 7, 3) := by decide +kernel
theorem d3_20 : decode prog_55_method_4_code 20 = .ok (.if_acmp .ne 18, 3) := by decide +kernel
theorem d3_23 : decode prog_55_method_4_code 23 = .ok (.aload_n 0, 1) := by decide +kernel
theorem d3_24 : decode prog_55_method_4_code 24 = .ok (.getfield 13, 3) := by decide +kernel
theorem d3_27 : decode prog_55_method_4_code 27 = .ok (.aload_n 2, 1) := by decide +kernel
theorem d3_28 : decode prog_55_method_4_code 28 = .ok (.getfield 13, 3) := by decide +kernel
theorem d3_31 : decode prog_55_method_4_code 31 = .ok (.if_icmp .ne 7, 3) := by decide +kernel
theorem d3_34 : decode prog_55_method_4_code 34 = .ok (.iconst 1, 1) := by decide +kernel
theorem d3_35 : decode prog_55_method_4_code 35 = .ok (.goto 4, 3) := by decide +kernel
theorem pn_3 : plainName "com/example/vestbook/vestbook/engine/Life" = true := by first | (simp [plainName, overriddenIn]; done) | decide +kernel
theorem ef_3 (m : MethodId) (x0 : Addr) (x1 : Addr) : entryFrame m #[(.ref x0), (.ref x1)] 3 = mkF m 0 #[.val (.ref x0), .val (.ref x1), .unset] [] := by first | (simp [entryFrame, mkF, argsToLocals, Value.category]; done) | rfl
def Q3 (Z : State) (a1 : Addr) (a2 : Addr) (w5 : Addr) (w7 : Addr) (w11 : Int32) (w13 : Int32) (h0 : Heap) (n0 : Nat) (v : Option Value) (h : Heap) (L : List Loc) : Prop := v = some (.int (own_f3 w5 w7 w11 w13)) ∧ Fr n0 L ∧ h = h0
set_option maxRecDepth 65536 in
set_option maxHeartbeats 40000000 in
theorem rm3 (l : Launch) (Z : State) (a0 : Array Value) (hw : ∀ d ∈ tables_1, d.before a0 Z = true) (ws : List Jvm.Cond) (a1 : Addr) (a2 : Addr) (w5 : Addr) (w7 : Addr) (w11 : Int32) (w13 : Int32) (h0 : Heap) (n0 : Nat) (Z0 : n0 ≤ h0.size) (E_a2 : Exa Z h0 a2 "com/example/vestbook/vestbook/engine/Life") (F_sex_a1 : Fld Z h0 a1 "com/example/vestbook/vestbook/engine/Life" "sex" "Lcom/example/vestbook/vestbook/engine/Sex;" (.ref w5)) (F_sex_a2 : Fld Z h0 a2 "com/example/vestbook/vestbook/engine/Life" "sex" "Lcom/example/vestbook/vestbook/engine/Sex;" (.ref w7)) (F_age_a1 : Fld Z h0 a1 "com/example/vestbook/vestbook/engine/Life" "age" "I" (.int w11)) (F_age_a2 : Fld Z h0 a2 "com/example/vestbook/vestbook/engine/Life" "age" "I" (.int w13)) :
    MetFree l (⟨"com/example/vestbook/vestbook/engine/Life", "equals", "(Ljava/lang/Object;)Z"⟩ : MethodName) (head1 (Jvm.Cond.code (⟨"com/example/vestbook/vestbook/engine/Life", "equals", "(Ljava/lang/Object;)Z"⟩ : MethodName) prog_55_method_4_code 3 (some .boolean) :: ws) ({ frames := 0, cells := 0, slots := 0, locals := 0 } : Room)) (fun a U => a = #[(.ref a1), (.ref a2)] ∧ Z.Warmed39 U.vm ∧ U.heap = h0) (fun _ _ _ _ _ => True) (fun _ U o U' => ∃ v L, o = .returned v ∧ Q3 Z a1 a2 w5 w7 w11 w13 h0 n0 v U'.heap L ∧ FrameEnd U o U' L ({ frames := 0, cells := 0, slots := 0, locals := 0 } : Room).cells ({ frames := 0, cells := 0, slots := 0, locals := 0 } : Room).slots) := by
  refine MetFree.of_bodySF (plainFor_of_name pn_3) hisR ?_
  intro p e s m args below meth c s₁ Bd hml0 hP hK
  obtain ⟨rfl, hZ, hh⟩ := hP
  have hx := Bd.exec
  have hby := Bd.bytes
  have hml : c.maxLocals = 3 := hml0
  have hown : s.vm.findClass "com/example/vestbook/vestbook/engine/Life" = some m.cls := findClass_of_methodNamed Bd.named
  have hnm := (name_of_methodNamed Bd.named Bd.method).1
  have X0 : Stand p l e ({ frames := 0, cells := 0, slots := 0, locals := 0 } : Room) s m #[(.ref a1), (.ref a2)] below meth c s₁ [] 0 0 := Stand.of_body Bd
  have e0 : s₁.heap = h0 := by rw [← hh, Bd.state]; rfl
  have N0 := Fr.nil n0
  have pre0 : ∀ t, Steps p.tables e below (s₁.setTop (mkF m 0 #[.val (.ref a1), .val (.ref a2), .unset] [])) t → Steps p.tables e below (s₁.setTop (entryFrame m #[(.ref a1), (.ref a2)] 3)) t := fun t k => castTop (ef_3 m a1 a2) k
  obtain ⟨T3, X3, e3, st3⟩ := instY X0 hx hZ hown (hw _ (List.mem_of_getElem? (i := 21) rfl)) e0 (Ins.self E_a2) (g := (mkF m 1 #[.val (.ref a1), .val (.ref a2), .unset] [(.ref a2)])) rfl rfl (hb hby d3_1)
  obtain ⟨T4, X4, e4, st4⟩ := castY X3 hx hZ hown (hw _ (List.mem_of_getElem? (i := 21) rfl)) e3 (Ins.self E_a2) (g := (mkF m 8 #[.val (.ref a1), .val (.ref a2), .unset] [(.ref a2)])) rfl rfl (hb hby d3_8)
  obtain ⟨T6, X6, e6, st6⟩ := getF X4 hx hZ hown (host := "") (Or.inl (hw _ (List.mem_of_getElem? (i := 12) rfl))) Via.refl e4 F_sex_a1 (g := (mkF m 13 #[.val (.ref a1), .val (.ref a2), .val (.ref a2)] [(.ref a1)])) rfl rfl (hb hby d3_13)
  obtain ⟨T8, X8, e8, st8⟩ := getF X6 hx hZ hown (host := "") (Or.inl (hw _ (List.mem_of_getElem? (i := 12) rfl))) Via.refl e6 F_sex_a2 (g := (mkF m 17 #[.val (.ref a1), .val (.ref a2), .val (.ref a2)] [(.ref a2), (.ref w5)])) rfl rfl (hb hby d3_17)
  have pr10 : ∀ t, Steps p.tables e below (T8.setTop (mkF m 20 #[.val (.ref a1), .val (.ref a2), .val (.ref a2)] [(.ref w7), (.ref w5)])) t → Steps p.tables e below (s₁.setTop (entryFrame m #[(.ref a1), (.ref a2)] 3)) t := by
    intro t k
    refine pre0 t ?_
    show Steps p.tables e below (s₁.setTop (mkF m 0 #[.val (.ref a1), .val (.ref a2), .unset] [])) _
    refine XS.aloadN X0.here hx rfl (hb hby d3_0) rfl rfl ?_
    show Steps p.tables e below (s₁.setTop (mkF m 1 #[.val (.ref a1), .val (.ref a2), .unset] [(.ref a2)])) _
    refine st3 _ ?_
    show Steps p.tables e below (T3.setTop (mkF m 4 #[.val (.ref a1), .val (.ref a2), .unset] [(.int (1 : Int32))])) _
    refine XS.ifNo X3.here hx rfl (hb hby d3_4) rfl ((if0 _ _).trans (feq (by decide : ¬ ((1 : Int32) = (0 : Int32)))).1) ?_
    show Steps p.tables e below (T3.setTop (mkF m 7 #[.val (.ref a1), .val (.ref a2), .unset] [])) _
    refine XS.aloadN X3.here hx rfl (hb hby d3_7) rfl rfl ?_
    show Steps p.tables e below (T3.setTop (mkF m 8 #[.val (.ref a1), .val (.ref a2), .unset] [(.ref a2)])) _
    refine st4 _ ?_
    show Steps p.tables e below (T4.setTop (mkF m 11 #[.val (.ref a1), .val (.ref a2), .unset] [(.ref a2)])) _
    refine XS.astoreN X4.here hx rfl (hb hby d3_11) rfl rfl (l' := #[.val (.ref a1), .val (.ref a2), .val (.ref a2)]) rfl ?_
    show Steps p.tables e below (T4.setTop (mkF m 12 #[.val (.ref a1), .val (.ref a2), .val (.ref a2)] [])) _
    refine XS.aloadN X4.here hx rfl (hb hby d3_12) rfl rfl ?_
    show Steps p.tables e below (T4.setTop (mkF m 13 #[.val (.ref a1), .val (.ref a2), .val (.ref a2)] [(.ref a1)])) _
    refine st6 _ ?_
    show Steps p.tables e below (T6.setTop (mkF m 16 #[.val (.ref a1), .val (.ref a2), .val (.ref a2)] [(.ref w5)])) _
    refine XS.aloadN X6.here hx rfl (hb hby d3_16) rfl rfl ?_
    show Steps p.tables e below (T6.setTop (mkF m 17 #[.val (.ref a1), .val (.ref a2), .val (.ref a2)] [(.ref a2), (.ref w5)])) _
    refine st8 _ ?_
    show Steps p.tables e below (T8.setTop (mkF m 20 #[.val (.ref a1), .val (.ref a2), .val (.ref a2)] [(.ref w7), (.ref w5)])) _
    exact k
  by_cases hc9 : w5 = w7
  · obtain ⟨T12, X12, e12, st12⟩ := getF X8 hx hZ hown (host := "") (Or.inl (hw _ (List.mem_of_getElem? (i := 14) rfl))) Via.refl e8 F_age_a1 (g := (mkF m 24 #[.val (.ref a1), .val (.ref a2), .val (.ref a2)] [(.ref a1)])) rfl rfl (hb hby d3_24)
    obtain ⟨T14, X14, e14, st14⟩ := getF X12 hx hZ hown (host := "") (Or.inl (hw _ (List.mem_of_getElem? (i := 14) rfl))) Via.refl e12 F_age_a2 (g := (mkF m 28 #[.val (.ref a1), .val (.ref a2), .val (.ref a2)] [(.ref a2), (.int w11)])) rfl rfl (hb hby d3_28)
    have pr16 : ∀ t, Steps p.tables e below (T14.setTop (mkF m 31 #[.val (.ref a1), .val (.ref a2), .val (.ref a2)] [(.int w13), (.int w11)])) t → Steps p.tables e below (s₁.setTop (entryFrame m #[(.ref a1), (.ref a2)] 3)) t := by
      intro t k
      refine pr10 t ?_
      show Steps p.tables e below (T8.setTop (mkF m 20 #[.val (.ref a1), .val (.ref a2), .val (.ref a2)] [(.ref w7), (.ref w5)])) _
      refine Jvm.RoadKit.acmp (g := (mkF m 20 #[.val (.ref a1), .val (.ref a2), .val (.ref a2)] [(.ref w7), (.ref w5)])) X8 hx rfl rfl rfl (pc0 := 20) (pc' := 23) (same := true) rfl (hb hby d3_20) rfl (decide_eq_true (congrArg Value.ref hc9)) (by decide) (by decide) ?_
      show Steps p.tables e below (T8.setTop (mkF m 23 #[.val (.ref a1), .val (.ref a2), .val (.ref a2)] [])) _
      refine XS.aloadN X8.here hx rfl (hb hby d3_23) rfl rfl ?_
      show Steps p.tables e below (T8.setTop (mkF m 24 #[.val (.ref a1), .val (.ref a2), .val (.ref a2)] [(.ref a1)])) _
      refine st12 _ ?_
      show Steps p.tables e below (T12.setTop (mkF m 27 #[.val (.ref a1), .val (.ref a2), .val (.ref a2)] [(.int w11)])) _
      refine XS.aloadN X12.here hx rfl (hb hby d3_27) rfl rfl ?_
      show Steps p.tables e below (T12.setTop (mkF m 28 #[.val (.ref a1), .val (.ref a2), .val (.ref a2)] [(.ref a2), (.int w11)])) _
      refine st14 _ ?_
      show Steps p.tables e below (T14.setTop (mkF m 31 #[.val (.ref a1), .val (.ref a2), .val (.ref a2)] [(.int w13), (.int w11)])) _
      exact k
    by_cases hc15 : w11 = w13
    · obtain ⟨fs, hr, hrun, hended, hW, hsame⟩ := X14.leave (v := some (.int (1 : Int32))) (fun h => by rw [Bd.returns] at h; cases h)
      refine ⟨_, _, pr16 _ ?_, hrun, hended, _, _, rfl, ?_, ⟨_, rfl⟩, hW, hsame.mono (by decide) (by decide)⟩
      · show Steps p.tables e below (T14.setTop (mkF m 31 #[.val (.ref a1), .val (.ref a2), .val (.ref a2)] [(.int w13), (.int w11)])) _
        refine XS.icmpNo X14.here hx rfl (hb hby d3_31) rfl (teq hc15).2 ?_
        show Steps p.tables e below (T14.setTop (mkF m 34 #[.val (.ref a1), .val (.ref a2), .val (.ref a2)] [])) _
        refine XS.iconst X14.here hx rfl (hb hby d3_34) ?_
        show Steps p.tables e below (T14.setTop (mkF m 35 #[.val (.ref a1), .val (.ref a2), .val (.ref a2)] [(.int (1 : Int32))])) _
        refine XS.goto X14.here hx rfl (pc0 := 35) (pc' := 39) rfl (hb hby d3_35) (by decide) (by decide) ?_
        show Steps p.tables e below (T14.setTop (mkF m 39 #[.val (.ref a1), .val (.ref a2), .val (.ref a2)] [(.int (1 : Int32))])) _
        exact retN X14 hx (t := .boolean) Bd.returns (by simp) (hb hby d3_39) hr
      · show Q3 Z a1 a2 w5 w7 w11 w13 h0 n0 _ T14.heap _
        rw [e14]
        exact ⟨(by rw [show (own_f3 w5 w7 w11 w13) = (1 : Int32) from by unfold own_f3; rw [if_pos hc9, if_pos hc15]]), N0, rfl⟩
    · obtain ⟨fs, hr, hrun, hended, hW, hsame⟩ := X14.leave (v := some (.int (0 : Int32))) (fun h => by rw [Bd.returns] at h; cases h)
      refine ⟨_, _, pr16 _ ?_, hrun, hended, _, _, rfl, ?_, ⟨_, rfl⟩, hW, hsame.mono (by decide) (by decide)⟩
      · show Steps p.tables e below (T14.setTop (mkF m 31 #[.val (.ref a1), .val (.ref a2), .val (.ref a2)] [(.int w13), (.int w11)])) _
        refine XS.icmpYes X14.here hx rfl (pc0 := 31) (pc' := 38) rfl (hb hby d3_31) rfl (feq hc15).2 (by decide) (by decide) ?_
        show Steps p.tables e below (T14.setTop (mkF m 38 #[.val (.ref a1), .val (.ref a2), .val (.ref a2)] [])) _
        refine XS.iconst X14.here hx rfl (hb hby d3_38) ?_
        show Steps p.tables e below (T14.setTop (mkF m 39 #[.val (.ref a1), .val (.ref a2), .val (.ref a2)] [(.int (0 : Int32))])) _
        exact retN X14 hx (t := .boolean) Bd.returns (by simp) (hb hby d3_39) hr
      · show Q3 Z a1 a2 w5 w7 w11 w13 h0 n0 _ T14.heap _
        rw [e14]
        exact ⟨(by rw [show (own_f3 w5 w7 w11 w13) = (0 : Int32) from by unfold own_f3; rw [if_pos hc9, if_neg hc15]]), N0, rfl⟩
  · obtain ⟨fs, hr, hrun, hended, hW, hsame⟩ := X8.leave (v := some (.int (0 : Int32))) (fun h => by rw [Bd.returns] at h; cases h)
    refine ⟨_, _, pr10 _ ?_, hrun, hended, _, _, rfl, ?_, ⟨_, rfl⟩, hW, hsame.mono (by decide) (by decide)⟩
    · show Steps p.tables e below (T8.setTop (mkF m 20 #[.val (.ref a1), .val (.ref a2), .val (.ref a2)] [(.ref w7), (.ref w5)])) _
      refine Jvm.RoadKit.acmp (g := (mkF m 20 #[.val (.ref a1), .val (.ref a2), .val (.ref a2)] [(.ref w7), (.ref w5)])) X8 hx rfl rfl rfl (pc0 := 20) (pc' := 38) (same := false) rfl (hb hby d3_20) rfl (decide_eq_false fun q => hc9 (Value.ref.inj q)) (by decide) (by decide) ?_
      show Steps p.tables e below (T8.setTop (mkF m 38 #[.val (.ref a1), .val (.ref a2), .val (.ref a2)] [])) _
      refine XS.iconst X8.here hx rfl (hb hby d3_38) ?_
      show Steps p.tables e below (T8.setTop (mkF m 39 #[.val (.ref a1), .val (.ref a2), .val (.ref a2)] [(.int (0 : Int32))])) _
      exact retN X8 hx (t := .boolean) Bd.returns (by simp) (hb hby d3_39) hr
    · show Q3 Z a1 a2 w5 w7 w11 w13 h0 n0 _ T8.heap _
      rw [e8]
      exact ⟨(by rw [show (own_f3 w5 w7 w11 w13) = (0 : Int32) from by unfold own_f3; rw [if_neg hc9]]), N0, rfl⟩
theorem d4_0 : decode jdk_33_method_22_code 0 = .ok (.iload_n 0, 1) := by decide +kernel
theorem d4_1 : decode jdk_33_method_22_code 1 = .ok (.bipush (-128), 2) := by decide +kernel
theorem d4_3 : decode jdk_33_method_22_code 3 = .ok (.if_icmp .lt 20, 3) := by decide +kernel
theorem d4_23 : decode jdk_33_method_22_code 23 = .ok (.new 1, 3) := by decide +kernel
theorem d4_26 : decode jdk_33_method_22_code 26 = .ok (.dup, 1) := by decide +kernel
theorem d4_27 : decode jdk_33_method_22_code 27 = .ok (.iload_n 0, 1) := by decide +kernel
theorem d4_28 : decode jdk_33_method_22_code 28 = .ok (.invokespecial 199, 3) := by decide +kernel
theorem d4_31 : decode jdk_33_method_22_code 31 = .ok (.areturn, 1) := by decide +kernel
theorem pn_4a : plainName "java/lang/Integer" = true := by first | (simp [plainName, overriddenIn]; done) | decide +kernel
theorem pd_4a_0 : parseMethodDescriptor "(I)V" = some ⟨[.int], none⟩ := by decide +kernel
theorem ef_4a (m : MethodId) (x0 : Int32) : entryFrame m #[(.int x0)] 1 = mkF m 0 #[.val (.int x0)] [] := by first | (simp [entryFrame, mkF, argsToLocals, Value.category]; done) | rfl
def Q4a (Z : State) (p1 : Int32) (h0 : Heap) (n0 : Nat) (v : Option Value) (h : Heap) (L : List Loc) : Prop := v = some (.ref h0.size) ∧ Fr n0 L ∧ Keep h0 h [] ∧ Exa Z h h0.size "java/lang/Integer"
set_option maxRecDepth 65536 in
set_option maxHeartbeats 40000000 in
theorem rm4a (l : Launch) (Z : State) (a0 : Array Value) (hw : ∀ d ∈ tables_1, d.before a0 Z = true) (ws : List Jvm.Cond) (p1 : Int32) (h0 : Heap) (n0 : Nat) (Z0 : n0 ≤ h0.size) (hq3_1 : p1 < (-128 : Int32)) :
    MetFree l (⟨"java/lang/Integer", "valueOf", "(I)Ljava/lang/Integer;"⟩ : MethodName) (head1 (Jvm.Cond.code (⟨"java/lang/Integer", "valueOf", "(I)Ljava/lang/Integer;"⟩ : MethodName) jdk_33_method_22_code 1 (some (.object "java/lang/Integer")) :: ws) ({ frames := 3, cells := 1, slots := 1, locals := 38 } : Room)) (fun a U => a = #[(.int p1)] ∧ Z.Warmed39 U.vm ∧ U.heap = h0) (fun _ _ _ _ _ => True) (fun _ U o U' => ∃ v L, o = .returned v ∧ Q4a Z p1 h0 n0 v U'.heap L ∧ FrameEnd U o U' L ({ frames := 3, cells := 1, slots := 1, locals := 38 } : Room).cells ({ frames := 3, cells := 1, slots := 1, locals := 38 } : Room).slots) := by
  refine MetFree.of_bodySF (plainFor_of_name pn_4a) hisR ?_
  intro p e s m args below meth c s₁ Bd hml0 hP hK
  obtain ⟨rfl, hZ, hh⟩ := hP
  have hx := Bd.exec
  have hby := Bd.bytes
  have hml : c.maxLocals = 1 := hml0
  have hown : s.vm.findClass "java/lang/Integer" = some m.cls := findClass_of_methodNamed Bd.named
  have hnm := (name_of_methodNamed Bd.named Bd.method).1
  have X0 : Stand p l e ({ frames := 3, cells := 1, slots := 1, locals := 38 } : Room) s m #[(.int p1)] below meth c s₁ [] 0 0 := Stand.of_body Bd
  have e0 : s₁.heap = h0 := by rw [← hh, Bd.state]; rfl
  have N0 := Fr.nil n0
  have pre0 : ∀ t, Steps p.tables e below (s₁.setTop (mkF m 0 #[.val (.int p1)] [])) t → Steps p.tables e below (s₁.setTop (entryFrame m #[(.int p1)] 1)) t := fun t k => castTop (ef_4a m p1) k
  obtain ⟨T2, h2, X2, e2, E2, A2, D2, -, st2⟩ := newO X0 hx hZ hown (hw _ (List.mem_of_getElem? (i := 35) rfl)) (hw _ (List.mem_of_getElem? (i := 36) rfl)) (hw _ (List.mem_of_getElem? (i := 27) rfl)) e0 (g := (mkF m 23 #[.val (.int p1)] [])) rfl (hb hby d4_23) (by decide) (by decide)
  obtain ⟨b2, g2⟩ : ∃ z, z = h0.size := ⟨_, rfl⟩
  rw [← g2] at A2 D2 st2
  have g_b2 : n0 ≤ b2 := Nat.le_trans Z0 (Nat.le_of_eq g2.symm)
  have sz_b2 : h0.size ≤ b2 := Nat.le_trans (Keep.refl h0 []).1 (Nat.le_of_eq g2.symm)
  have Z2 : n0 ≤ h2.size := Nat.le_trans Z0 E2.1
  have KK2 := (Keep.ext (Keep.refl h0 []) E2)
  have F2_value : Fld Z h2 b2 "java/lang/Integer" "value" "I" (.int (0 : Int32)) := D2 (Or.inr (hw _ (List.mem_of_getElem? (i := 49) rfl))) (ty := .int) (by decide)
  obtain ⟨_, _, ⟨T3, L3, k3, n3⟩, -, X3, ⟨Lc3, hQ3, l3, y3, z3⟩, st3⟩ := X2.specialBack hx (y := (⟨"java/lang/Integer", "<init>", "(I)V"⟩ : MethodName)) rfl hown (mvT hZ (hw _ (List.mem_of_getElem? (i := 37) rfl))) (mvT hZ (hw _ (List.mem_of_getElem? (i := 38) rfl))) (mvT hZ (hw _ (List.mem_of_getElem? (i := 40) rfl))) (by decide) (backOf (W := 1) (rm5 l Z a0 hw [] b2 p1 (.int (0 : Int32)) h2 n0 Z2 g_b2 A2 F2_value) hZ (hw _ (List.mem_of_getElem? (i := 40) rfl)) (hw _ (List.mem_of_getElem? (i := 27) rfl)) (by decide) (by decide)) (g := (mkF m 28 #[.val (.int p1)] [(.int p1), (.ref b2), (.ref b2)])) rfl (by rw [hml]; rfl) (Steps.refl _) (a := b2) (argsL := [(.int p1)]) (rest := [(.ref b2)]) (lenOf pd_4a_0 rfl) rfl (by show 2 * 0 + _ ≤ _; exact Nat.le_of_eq rfl) (hb hby d4_28) (fun _ _ => ⟨rfl, e2, (by decide : 1 + 0 ≤ _), (by decide : 1 + 0 ≤ _)⟩)
  dsimp only [Pt.U, Pt.locs, Pt.cells, Pt.slots] at X3 l3 y3 z3 st3 hQ3
  subst l3 y3 z3
  obtain ⟨rfl, N3q, K3, A3, G3_value⟩ := hQ3
  have N3 := Fr.app N0 N3q
  have Z3 : n0 ≤ T3.heap.size := Nat.le_trans Z2 K3.1
  have KK3 := Keep.trans KK2 K3 (allS (Or.inr sz_b2) all0)
  obtain ⟨fs, hr, hrun, hended, hW, hsame⟩ := X3.leave (v := some (.ref b2)) (fun h => by rw [Bd.returns] at h; cases h)
  refine ⟨_, _, pre0 _ ?_, hrun, hended, _, _, rfl, ?_, ⟨_, rfl⟩, hW, hsame.mono (by decide) (by decide)⟩
  · show Steps p.tables e below (s₁.setTop (mkF m 0 #[.val (.int p1)] [])) _
    refine XS.iloadN X0.here hx rfl (hb hby d4_0) rfl ?_
    show Steps p.tables e below (s₁.setTop (mkF m 1 #[.val (.int p1)] [(.int p1)])) _
    refine XS.bipush X0.here hx rfl (hb hby d4_1) ?_
    show Steps p.tables e below (s₁.setTop (mkF m 3 #[.val (.int p1)] [(.int (-128 : Int32)), (.int p1)])) _
    refine XS.icmpYes X0.here hx rfl (pc0 := 3) (pc' := 23) rfl (hb hby d4_3) rfl (tlt (hq3_1)).1 (by decide) (by decide) ?_
    show Steps p.tables e below (s₁.setTop (mkF m 23 #[.val (.int p1)] [])) _
    refine st2 _ ?_
    show Steps p.tables e below (T2.setTop (mkF m 26 #[.val (.int p1)] [(.ref b2)])) _
    refine XS.dup X2.here hx rfl (hb hby d4_26) rfl rfl ?_
    show Steps p.tables e below (T2.setTop (mkF m 27 #[.val (.int p1)] [(.ref b2), (.ref b2)])) _
    refine XS.iloadN X2.here hx rfl (hb hby d4_27) rfl ?_
    show Steps p.tables e below (T2.setTop (mkF m 28 #[.val (.int p1)] [(.int p1), (.ref b2), (.ref b2)])) _
    refine st3.trans ?_
    show Steps p.tables e below (T3.setTop (mkF m 31 #[.val (.int p1)] [(.ref b2)])) _
    exact retOut X3 hx Bd.returns rfl (Or.inr (Or.inr (Or.inr (Or.inr ⟨rfl, rfl, rfl⟩)))) (hb hby d4_31) hr
  · show Q4a Z p1 h0 n0 _ T3.heap _
    exact (by subst g2; exact ⟨rfl, N3, KK3, A3⟩)
theorem d4_6 : decode jdk_33_method_22_code 6 = .ok (.iload_n 0, 1) := by decide +kernel
theorem d4_7 : decode jdk_33_method_22_code 7 = .ok (.getstatic 191, 3) := by decide +kernel
theorem d4_10 : decode jdk_33_method_22_code 10 = .ok (.if_icmp .gt 13, 3) := by decide +kernel
theorem pn_4b : plainName "java/lang/Integer" = true := by first | (simp [plainName, overriddenIn]; done) | decide +kernel
theorem pd_4b_0 : parseMethodDescriptor "(I)V" = some ⟨[.int], none⟩ := by decide +kernel
theorem ef_4b (m : MethodId) (x0 : Int32) : entryFrame m #[(.int x0)] 1 = mkF m 0 #[.val (.int x0)] [] := by first | (simp [entryFrame, mkF, argsToLocals, Value.category]; done) | rfl
def Q4b (Z : State) (p1 : Int32) (h0 : Heap) (n0 : Nat) (v : Option Value) (h : Heap) (L : List Loc) : Prop := v = some (.ref h0.size) ∧ Fr n0 L ∧ Keep h0 h [] ∧ Exa Z h h0.size "java/lang/Integer"
set_option maxRecDepth 65536 in
set_option maxHeartbeats 40000000 in
theorem rm4b (l : Launch) (Z : State) (a0 : Array Value) (hw : ∀ d ∈ tables_1, d.before a0 Z = true) (ws : List Jvm.Cond) (p1 : Int32) (h0 : Heap) (n0 : Nat) (Z0 : n0 ≤ h0.size) (hq3_1 : ¬ (p1 < (-128 : Int32))) (S_high : Sta Z h0 "java/lang/Integer$IntegerCache" "high" "I" (.int (127 : Int32))) (hq10_2 : (127 : Int32) < p1) :
    MetFree l (⟨"java/lang/Integer", "valueOf", "(I)Ljava/lang/Integer;"⟩ : MethodName) (head1 (Jvm.Cond.code (⟨"java/lang/Integer", "valueOf", "(I)Ljava/lang/Integer;"⟩ : MethodName) jdk_33_method_22_code 1 (some (.object "java/lang/Integer")) :: ws) ({ frames := 3, cells := 1, slots := 1, locals := 38 } : Room)) (fun a U => a = #[(.int p1)] ∧ Z.Warmed39 U.vm ∧ U.heap = h0) (fun _ _ _ _ _ => True) (fun _ U o U' => ∃ v L, o = .returned v ∧ Q4b Z p1 h0 n0 v U'.heap L ∧ FrameEnd U o U' L ({ frames := 3, cells := 1, slots := 1, locals := 38 } : Room).cells ({ frames := 3, cells := 1, slots := 1, locals := 38 } : Room).slots) := by
  refine MetFree.of_bodySF (plainFor_of_name pn_4b) hisR ?_
  intro p e s m args below meth c s₁ Bd hml0 hP hK
  obtain ⟨rfl, hZ, hh⟩ := hP
  have hx := Bd.exec
  have hby := Bd.bytes
  have hml : c.maxLocals = 1 := hml0
  have hown : s.vm.findClass "java/lang/Integer" = some m.cls := findClass_of_methodNamed Bd.named
  have hnm := (name_of_methodNamed Bd.named Bd.method).1
  have X0 : Stand p l e ({ frames := 3, cells := 1, slots := 1, locals := 38 } : Room) s m #[(.int p1)] below meth c s₁ [] 0 0 := Stand.of_body Bd
  have e0 : s₁.heap = h0 := by rw [← hh, Bd.state]; rfl
  have N0 := Fr.nil n0
  have pre0 : ∀ t, Steps p.tables e below (s₁.setTop (mkF m 0 #[.val (.int p1)] [])) t → Steps p.tables e below (s₁.setTop (entryFrame m #[(.int p1)] 1)) t := fun t k => castTop (ef_4b m p1) k
  obtain ⟨T2, X2, e2, st2⟩ := getS2 X0 hx hZ hown (host := "") (Or.inl (hw _ (List.mem_of_getElem? (i := 29) rfl))) Via.refl e0 S_high (g := (mkF m 7 #[.val (.int p1)] [(.int p1)])) rfl (hb hby d4_7)
  obtain ⟨T3, h3, X3, e3, E3, A3, D3, -, st3⟩ := newO X2 hx hZ hown (hw _ (List.mem_of_getElem? (i := 35) rfl)) (hw _ (List.mem_of_getElem? (i := 36) rfl)) (hw _ (List.mem_of_getElem? (i := 27) rfl)) e2 (g := (mkF m 23 #[.val (.int p1)] [])) rfl (hb hby d4_23) (by decide) (by decide)
  obtain ⟨b3, g3⟩ : ∃ z, z = h0.size := ⟨_, rfl⟩
  rw [← g3] at A3 D3 st3
  have g_b3 : n0 ≤ b3 := Nat.le_trans Z0 (Nat.le_of_eq g3.symm)
  have sz_b3 : h0.size ≤ b3 := Nat.le_trans (Keep.refl h0 []).1 (Nat.le_of_eq g3.symm)
  have Z3 : n0 ≤ h3.size := Nat.le_trans Z0 E3.1
  have KK3 := (Keep.ext (Keep.refl h0 []) E3)
  have F3_value : Fld Z h3 b3 "java/lang/Integer" "value" "I" (.int (0 : Int32)) := D3 (Or.inr (hw _ (List.mem_of_getElem? (i := 49) rfl))) (ty := .int) (by decide)
  obtain ⟨_, _, ⟨T4, L4, k4, n4⟩, -, X4, ⟨Lc4, hQ4, l4, y4, z4⟩, st4⟩ := X3.specialBack hx (y := (⟨"java/lang/Integer", "<init>", "(I)V"⟩ : MethodName)) rfl hown (mvT hZ (hw _ (List.mem_of_getElem? (i := 37) rfl))) (mvT hZ (hw _ (List.mem_of_getElem? (i := 38) rfl))) (mvT hZ (hw _ (List.mem_of_getElem? (i := 40) rfl))) (by decide) (backOf (W := 1) (rm5 l Z a0 hw [] b3 p1 (.int (0 : Int32)) h3 n0 Z3 g_b3 A3 F3_value) hZ (hw _ (List.mem_of_getElem? (i := 40) rfl)) (hw _ (List.mem_of_getElem? (i := 27) rfl)) (by decide) (by decide)) (g := (mkF m 28 #[.val (.int p1)] [(.int p1), (.ref b3), (.ref b3)])) rfl (by rw [hml]; rfl) (Steps.refl _) (a := b3) (argsL := [(.int p1)]) (rest := [(.ref b3)]) (lenOf pd_4b_0 rfl) rfl (by show 2 * 0 + _ ≤ _; exact Nat.le_of_eq rfl) (hb hby d4_28) (fun _ _ => ⟨rfl, e3, (by decide : 1 + 0 ≤ _), (by decide : 1 + 0 ≤ _)⟩)
  dsimp only [Pt.U, Pt.locs, Pt.cells, Pt.slots] at X4 l4 y4 z4 st4 hQ4
  subst l4 y4 z4
  obtain ⟨rfl, N4q, K4, A4, G4_value⟩ := hQ4
  have N4 := Fr.app N0 N4q
  have Z4 : n0 ≤ T4.heap.size := Nat.le_trans Z3 K4.1
  have KK4 := Keep.trans KK3 K4 (allS (Or.inr sz_b3) all0)
  obtain ⟨fs, hr, hrun, hended, hW, hsame⟩ := X4.leave (v := some (.ref b3)) (fun h => by rw [Bd.returns] at h; cases h)
  refine ⟨_, _, pre0 _ ?_, hrun, hended, _, _, rfl, ?_, ⟨_, rfl⟩, hW, hsame.mono (by decide) (by decide)⟩
  · show Steps p.tables e below (s₁.setTop (mkF m 0 #[.val (.int p1)] [])) _
    refine XS.iloadN X0.here hx rfl (hb hby d4_0) rfl ?_
    show Steps p.tables e below (s₁.setTop (mkF m 1 #[.val (.int p1)] [(.int p1)])) _
    refine XS.bipush X0.here hx rfl (hb hby d4_1) ?_
    show Steps p.tables e below (s₁.setTop (mkF m 3 #[.val (.int p1)] [(.int (-128 : Int32)), (.int p1)])) _
    refine XS.icmpNo X0.here hx rfl (hb hby d4_3) rfl (flt (hq3_1)).1 ?_
    show Steps p.tables e below (s₁.setTop (mkF m 6 #[.val (.int p1)] [])) _
    refine XS.iloadN X0.here hx rfl (hb hby d4_6) rfl ?_
    show Steps p.tables e below (s₁.setTop (mkF m 7 #[.val (.int p1)] [(.int p1)])) _
    refine st2 _ ?_
    show Steps p.tables e below (T2.setTop (mkF m 10 #[.val (.int p1)] [(.int (127 : Int32)), (.int p1)])) _
    refine XS.icmpYes X2.here hx rfl (pc0 := 10) (pc' := 23) rfl (hb hby d4_10) rfl (tlt (hq10_2)).2.2.1 (by decide) (by decide) ?_
    show Steps p.tables e below (T2.setTop (mkF m 23 #[.val (.int p1)] [])) _
    refine st3 _ ?_
    show Steps p.tables e below (T3.setTop (mkF m 26 #[.val (.int p1)] [(.ref b3)])) _
    refine XS.dup X3.here hx rfl (hb hby d4_26) rfl rfl ?_
    show Steps p.tables e below (T3.setTop (mkF m 27 #[.val (.int p1)] [(.ref b3), (.ref b3)])) _
    refine XS.iloadN X3.here hx rfl (hb hby d4_27) rfl ?_
    show Steps p.tables e below (T3.setTop (mkF m 28 #[.val (.int p1)] [(.int p1), (.ref b3), (.ref b3)])) _
    refine st4.trans ?_
    show Steps p.tables e below (T4.setTop (mkF m 31 #[.val (.int p1)] [(.ref b3)])) _
    exact retOut X4 hx Bd.returns rfl (Or.inr (Or.inr (Or.inr (Or.inr ⟨rfl, rfl, rfl⟩)))) (hb hby d4_31) hr
  · show Q4b Z p1 h0 n0 _ T4.heap _
    exact (by subst g3; exact ⟨rfl, N4, KK4, A4⟩)
theorem d4_13 : decode jdk_33_method_22_code 13 = .ok (.getstatic 195, 3) := by decide +kernel
theorem d4_16 : decode jdk_33_method_22_code 16 = .ok (.iload_n 0, 1) := by decide +kernel
theorem d4_17 : decode jdk_33_method_22_code 17 = .ok (.sipush 128, 3) := by decide +kernel
theorem d4_20 : decode jdk_33_method_22_code 20 = .ok (.iadd, 1) := by decide +kernel
theorem d4_21 : decode jdk_33_method_22_code 21 = .ok (.aaload, 1) := by decide +kernel
theorem d4_22 : decode jdk_33_method_22_code 22 = .ok (.areturn, 1) := by decide +kernel
theorem pn_4c : plainName "java/lang/Integer" = true := by first | (simp [plainName, overriddenIn]; done) | decide +kernel
theorem ef_4c (m : MethodId) (x0 : Int32) : entryFrame m #[(.int x0)] 1 = mkF m 0 #[.val (.int x0)] [] := by first | (simp [entryFrame, mkF, argsToLocals, Value.category]; done) | rfl
def Q4c (Z : State) (p1 : Int32) (cl_cache : Cell) (s_cache : Addr) (w5 : Addr) (h0 : Heap) (n0 : Nat) (v : Option Value) (h : Heap) (L : List Loc) : Prop := v = some (.ref w5) ∧ Fr n0 L ∧ h = h0
set_option maxRecDepth 65536 in
set_option maxHeartbeats 40000000 in
theorem rm4c (l : Launch) (Z : State) (a0 : Array Value) (hw : ∀ d ∈ tables_1, d.before a0 Z = true) (ws : List Jvm.Cond) (p1 : Int32) (cl_cache : Cell) (s_cache : Addr) (w5 : Addr) (h0 : Heap) (n0 : Nat) (Z0 : n0 ≤ h0.size) (Ar_s_cache : Arr Z h0 s_cache cl_cache (Jvm.ClassFile.FieldType.object "java/lang/Integer")) (hq3_1 : ¬ (p1 < (-128 : Int32))) (S_high : Sta Z h0 "java/lang/Integer$IntegerCache" "high" "I" (.int (127 : Int32))) (hq10_2 : ¬ ((127 : Int32) < p1)) (S_cache : Sta Z h0 "java/lang/Integer$IntegerCache" "cache" "[Ljava/lang/Integer;" (.ref s_cache)) (hin21 : ¬ ((p1 + (128 : Int32)) < 0 ∨ cl_cache.slots.size ≤ ((p1 + (128 : Int32))).toNatClampNeg)) (hat21 : cl_cache.slots[((p1 + (128 : Int32))).toNatClampNeg]? = some (.ref w5)) :
    MetFree l (⟨"java/lang/Integer", "valueOf", "(I)Ljava/lang/Integer;"⟩ : MethodName) (head1 (Jvm.Cond.code (⟨"java/lang/Integer", "valueOf", "(I)Ljava/lang/Integer;"⟩ : MethodName) jdk_33_method_22_code 1 (some (.object "java/lang/Integer")) :: ws) ({ frames := 0, cells := 0, slots := 0, locals := 0 } : Room)) (fun a U => a = #[(.int p1)] ∧ Z.Warmed39 U.vm ∧ U.heap = h0) (fun _ _ _ _ _ => True) (fun _ U o U' => ∃ v L, o = .returned v ∧ Q4c Z p1 cl_cache s_cache w5 h0 n0 v U'.heap L ∧ FrameEnd U o U' L ({ frames := 0, cells := 0, slots := 0, locals := 0 } : Room).cells ({ frames := 0, cells := 0, slots := 0, locals := 0 } : Room).slots) := by
  refine MetFree.of_bodySF (plainFor_of_name pn_4c) hisR ?_
  intro p e s m args below meth c s₁ Bd hml0 hP hK
  obtain ⟨rfl, hZ, hh⟩ := hP
  have hx := Bd.exec
  have hby := Bd.bytes
  have hml : c.maxLocals = 1 := hml0
  have hown : s.vm.findClass "java/lang/Integer" = some m.cls := findClass_of_methodNamed Bd.named
  have hnm := (name_of_methodNamed Bd.named Bd.method).1
  have X0 : Stand p l e ({ frames := 0, cells := 0, slots := 0, locals := 0 } : Room) s m #[(.int p1)] below meth c s₁ [] 0 0 := Stand.of_body Bd
  have e0 : s₁.heap = h0 := by rw [← hh, Bd.state]; rfl
  have N0 := Fr.nil n0
  have pre0 : ∀ t, Steps p.tables e below (s₁.setTop (mkF m 0 #[.val (.int p1)] [])) t → Steps p.tables e below (s₁.setTop (entryFrame m #[(.int p1)] 1)) t := fun t k => castTop (ef_4c m p1) k
  obtain ⟨T2, X2, e2, st2⟩ := getS2 X0 hx hZ hown (host := "") (Or.inl (hw _ (List.mem_of_getElem? (i := 29) rfl))) Via.refl e0 S_high (g := (mkF m 7 #[.val (.int p1)] [(.int p1)])) rfl (hb hby d4_7)
  obtain ⟨T3, X3, e3, st3⟩ := getS2 X2 hx hZ hown (host := "") (Or.inl (hw _ (List.mem_of_getElem? (i := 31) rfl))) Via.refl e2 S_cache (g := (mkF m 13 #[.val (.int p1)] [])) rfl (hb hby d4_13)
  obtain ⟨fs, hr, hrun, hended, hW, hsame⟩ := X3.leave (v := some (.ref w5)) (fun h => by rw [Bd.returns] at h; cases h)
  refine ⟨_, _, pre0 _ ?_, hrun, hended, _, _, rfl, ?_, ⟨_, rfl⟩, hW, hsame.mono (by decide) (by decide)⟩
  · show Steps p.tables e below (s₁.setTop (mkF m 0 #[.val (.int p1)] [])) _
    refine XS.iloadN X0.here hx rfl (hb hby d4_0) rfl ?_
    show Steps p.tables e below (s₁.setTop (mkF m 1 #[.val (.int p1)] [(.int p1)])) _
    refine XS.bipush X0.here hx rfl (hb hby d4_1) ?_
    show Steps p.tables e below (s₁.setTop (mkF m 3 #[.val (.int p1)] [(.int (-128 : Int32)), (.int p1)])) _
    refine XS.icmpNo X0.here hx rfl (hb hby d4_3) rfl (flt (hq3_1)).1 ?_
    show Steps p.tables e below (s₁.setTop (mkF m 6 #[.val (.int p1)] [])) _
    refine XS.iloadN X0.here hx rfl (hb hby d4_6) rfl ?_
    show Steps p.tables e below (s₁.setTop (mkF m 7 #[.val (.int p1)] [(.int p1)])) _
    refine st2 _ ?_
    show Steps p.tables e below (T2.setTop (mkF m 10 #[.val (.int p1)] [(.int (127 : Int32)), (.int p1)])) _
    refine XS.icmpNo X2.here hx rfl (hb hby d4_10) rfl (flt (hq10_2)).2.2.1 ?_
    show Steps p.tables e below (T2.setTop (mkF m 13 #[.val (.int p1)] [])) _
    refine st3 _ ?_
    show Steps p.tables e below (T3.setTop (mkF m 16 #[.val (.int p1)] [(.ref s_cache)])) _
    refine XS.iloadN X3.here hx rfl (hb hby d4_16) rfl ?_
    show Steps p.tables e below (T3.setTop (mkF m 17 #[.val (.int p1)] [(.int p1), (.ref s_cache)])) _
    refine XS.sipush X3.here hx rfl (hb hby d4_17) ?_
    show Steps p.tables e below (T3.setTop (mkF m 20 #[.val (.int p1)] [(.int (128 : Int32)), (.int p1), (.ref s_cache)])) _
    refine XS.iadd X3.here hx rfl (hb hby d4_20) rfl ?_
    show Steps p.tables e below (T3.setTop (mkF m 21 #[.val (.int p1)] [(.int (p1 + (128 : Int32))), (.ref s_cache)])) _
    refine X3.aaload hx (j := (p1 + (128 : Int32))) (v := (.ref w5)) (by rw [e3]; exact Ar_s_cache.1) (State.isArrayOf_alike hZ.alike Ar_s_cache.2.1) rfl Ar_s_cache.2.2 hin21 hat21 (g := (mkF m 21 #[.val (.int p1)] [(.int (p1 + (128 : Int32))), (.ref s_cache)])) rfl rfl (hb hby d4_21) _ ?_
    show Steps p.tables e below (T3.setTop (mkF m 22 #[.val (.int p1)] [(.ref w5)])) _
    exact retOut X3 hx Bd.returns rfl (Or.inr (Or.inr (Or.inr (Or.inr ⟨rfl, rfl, rfl⟩)))) (hb hby d4_22) hr
  · show Q4c Z p1 cl_cache s_cache w5 h0 n0 _ T3.heap _
    rw [e3]
    exact ⟨rfl, N0, rfl⟩
def own_f0 (p1 : Int32) (p2 : Int32) (p3 : Int32) (p5 : Int32) (s_MALE : Addr) (s_FEMALE : Addr) : Int32 := (if (((p5.toUInt32 >>> ((1 : Int32) &&& 31).toUInt32).toInt32) &&& (3 : Int32)) = (0 : Int32) then (if (p1 &&& (1 : Int32)) = (p3 &&& (1 : Int32)) then (1 : Int32) else (1 : Int32)) else (if (((p5.toUInt32 >>> ((1 : Int32) &&& 31).toUInt32).toInt32) &&& (3 : Int32)) = (1 : Int32) then (1 : Int32) else (if (((p5.toUInt32 >>> ((1 : Int32) &&& 31).toUInt32).toInt32) &&& (3 : Int32)) = (2 : Int32) then (if p2 < (-128 : Int32) then (1 : Int32) else (if (127 : Int32) < p2 then (1 : Int32) else (1 : Int32))) else (nar .boolean (own_f3 (if (p1 &&& (1 : Int32)) = (0 : Int32) then s_MALE else s_FEMALE) (if (p1 &&& (1 : Int32)) = (0 : Int32) then s_MALE else s_FEMALE) p2 p2)))))
theorem pn_0 : plainName "com/example/vestbook/vestbook/engine/LifeEqualsPinLaw" = true := by first | (simp [plainName, overriddenIn]; done) | decide +kernel
theorem pd_0_0 : parseMethodDescriptor "(Lcom/example/vestbook/vestbook/engine/Sex;I)V" = some ⟨[(.object "com/example/vestbook/vestbook/engine/Sex"), .int], none⟩ := by decide +kernel
theorem pd_0_1 : parseMethodDescriptor "(Ljava/lang/Object;)Z" = some ⟨[(.object "java/lang/Object")], some .boolean⟩ := by decide +kernel
theorem pd_0_2 : parseMethodDescriptor "(I)Ljava/lang/Integer;" = some ⟨[.int], some (.object "java/lang/Integer")⟩ := by decide +kernel
theorem ef_0 (m : MethodId) (x0 : Int32) (x1 : Int32) (x2 : Int32) (x3 : Int32) (x4 : Int32) : entryFrame m #[(.int x0), (.int x1), (.int x2), (.int x3), (.int x4)] maxLocals = mkF m 0 #[.val (.int x0), .val (.int x1), .val (.int x2), .val (.int x3), .val (.int x4), .unset, .unset, .unset, .unset, .unset, .unset, .unset] [] := by first | (simp [entryFrame, mkF, argsToLocals, Value.category, maxLocals]; done) | rfl
def Q0 (Z : State) (p1 : Int32) (p2 : Int32) (p3 : Int32) (p4 : Int32) (p5 : Int32) (cl_cache : Cell) (s_MALE : Addr) (s_FEMALE : Addr) (wel : Addr) (s_cache : Addr) (h0 : Heap) (n0 : Nat) (v : Option Value) (h : Heap) (L : List Loc) : Prop := v = some (.int (1 : Int32)) ∧ Fr n0 L
set_option maxRecDepth 65536 in
set_option maxHeartbeats 40000000 in
theorem rm0 (l : Launch) (Z : State) (a0 : Array Value) (hw : ∀ d ∈ tables_1, d.before a0 Z = true) (ws : List Jvm.Cond) (p1 : Int32) (p2 : Int32) (p3 : Int32) (p4 : Int32) (p5 : Int32) (cl_cache : Cell) (s_MALE : Addr) (s_FEMALE : Addr) (wel : Addr) (s_cache : Addr) (h0 : Heap) (n0 : Nat) (Z0 : n0 ≤ h0.size) (S_MALE : Sta Z h0 "com/example/vestbook/vestbook/engine/Sex" "MALE" "Lcom/example/vestbook/vestbook/engine/Sex;" (.ref s_MALE)) (S_FEMALE : Sta Z h0 "com/example/vestbook/vestbook/engine/Sex" "FEMALE" "Lcom/example/vestbook/vestbook/engine/Sex;" (.ref s_FEMALE)) (hq117_1 : ((((p5.toUInt32 >>> ((1 : Int32) &&& 31).toUInt32).toInt32) &&& (3 : Int32)) = (0 : Int32)) → ((p1 &&& (1 : Int32)) = (p3 &&& (1 : Int32))) → (own_f3 (if (p1 &&& (1 : Int32)) = (0 : Int32) then s_MALE else s_FEMALE) (if (p3 &&& (1 : Int32)) = (0 : Int32) then s_MALE else s_FEMALE) p2 (if (p5 &&& (1 : Int32)) = (0 : Int32) then p4 else p2)) = (if p2 = (if (p5 &&& (1 : Int32)) = (0 : Int32) then p4 else p2) then (1 : Int32) else (0 : Int32))) (hq129_2 : ((((p5.toUInt32 >>> ((1 : Int32) &&& 31).toUInt32).toInt32) &&& (3 : Int32)) = (0 : Int32)) → ((p1 &&& (1 : Int32)) = (p3 &&& (1 : Int32))) → (own_f3 (if (p3 &&& (1 : Int32)) = (0 : Int32) then s_MALE else s_FEMALE) (if (p1 &&& (1 : Int32)) = (0 : Int32) then s_MALE else s_FEMALE) (if (p5 &&& (1 : Int32)) = (0 : Int32) then p4 else p2) p2) = (if p2 = (if (p5 &&& (1 : Int32)) = (0 : Int32) then p4 else p2) then (1 : Int32) else (0 : Int32))) (hq117_3 : ((((p5.toUInt32 >>> ((1 : Int32) &&& 31).toUInt32).toInt32) &&& (3 : Int32)) = (0 : Int32)) → (¬ ((p1 &&& (1 : Int32)) = (p3 &&& (1 : Int32)))) → (own_f3 (if (p1 &&& (1 : Int32)) = (0 : Int32) then s_MALE else s_FEMALE) (if (p3 &&& (1 : Int32)) = (0 : Int32) then s_MALE else s_FEMALE) p2 (if (p5 &&& (1 : Int32)) = (0 : Int32) then p4 else p2)) = (0 : Int32)) (hq129_4 : ((((p5.toUInt32 >>> ((1 : Int32) &&& 31).toUInt32).toInt32) &&& (3 : Int32)) = (0 : Int32)) → (¬ ((p1 &&& (1 : Int32)) = (p3 &&& (1 : Int32)))) → (own_f3 (if (p3 &&& (1 : Int32)) = (0 : Int32) then s_MALE else s_FEMALE) (if (p1 &&& (1 : Int32)) = (0 : Int32) then s_MALE else s_FEMALE) (if (p5 &&& (1 : Int32)) = (0 : Int32) then p4 else p2) p2) = (0 : Int32)) (hq_3i_hno : own_No Z "java/lang/Integer" "com/example/vestbook/vestbook/engine/Life") (S_high : Sta Z h0 "java/lang/Integer$IntegerCache" "high" "I" (.int (127 : Int32))) (E_wel : ¬ (p2 < (-128 : Int32)) → ¬ ((127 : Int32) < p2) → Exa Z h0 wel "java/lang/Integer") (Ar_s_cache : Arr Z h0 s_cache cl_cache (Jvm.ClassFile.FieldType.object "java/lang/Integer")) (S_cache : Sta Z h0 "java/lang/Integer$IntegerCache" "cache" "[Ljava/lang/Integer;" (.ref s_cache)) (hc_hin21 : ¬ (p2 < (-128 : Int32)) → ¬ ((127 : Int32) < p2) → ¬ ((p2 + (128 : Int32)) < 0 ∨ cl_cache.slots.size ≤ ((p2 + (128 : Int32))).toNatClampNeg)) (hc_hat21 : ¬ (p2 < (-128 : Int32)) → ¬ ((127 : Int32) < p2) → cl_cache.slots[((p2 + (128 : Int32))).toNatClampNeg]? = some (.ref wel)) :
    MetFree l x (head1 (Jvm.Cond.code x code maxLocals ret :: ws) room_1) (fun a U => a = #[(.int p1), (.int p2), (.int p3), (.int p4), (.int p5)] ∧ Z.Warmed39 U.vm ∧ U.heap = h0) (fun _ _ _ _ _ => True) (fun _ U o U' => ∃ v L, o = .returned v ∧ Q0 Z p1 p2 p3 p4 p5 cl_cache s_MALE s_FEMALE wel s_cache h0 n0 v U'.heap L ∧ FrameEnd U o U' L room_1.cells room_1.slots) := by
  refine MetFree.of_bodySF (plainFor_of_name pn_0) hisR ?_
  intro p e s m args below meth c s₁ Bd hml0 hP hK
  obtain ⟨rfl, hZ, hh⟩ := hP
  have hx := Bd.exec
  have hby := Bd.bytes
  have hml : c.maxLocals = 12 := hml0
  have hown : s.vm.findClass "com/example/vestbook/vestbook/engine/LifeEqualsPinLaw" = some m.cls := findClass_of_methodNamed Bd.named
  have hnm := (name_of_methodNamed Bd.named Bd.method).1
  have X0 : Stand p l e room_1 s m #[(.int p1), (.int p2), (.int p3), (.int p4), (.int p5)] below meth c s₁ [] 0 0 := Stand.of_body Bd
  have e0 : s₁.heap = h0 := by rw [← hh, Bd.state]; rfl
  have N0 := Fr.nil n0
  have pre0 : ∀ t, Steps p.tables e below (s₁.setTop (mkF m 0 #[.val (.int p1), .val (.int p2), .val (.int p3), .val (.int p4), .val (.int p5), .unset, .unset, .unset, .unset, .unset, .unset, .unset] [])) t → Steps p.tables e below (s₁.setTop (entryFrame m #[(.int p1), (.int p2), (.int p3), (.int p4), (.int p5)] maxLocals)) t := fun t k => castTop (ef_0 m p1 p2 p3 p4 p5) k
  obtain ⟨T8, X8, e8, pr6⟩ : ∃ T8, Stand p l e room_1 s m #[(.int p1), (.int p2), (.int p3), (.int p4), (.int p5)] below meth c T8 [] 0 0 ∧ T8.heap = h0 ∧ ∀ t, Steps p.tables e below (T8.setTop (mkF m 15 #[.val (.int p1), .val (.int p2), .val (.int p3), .val (.int p4), .val (.int p5), .unset, .unset, .unset, .unset, .unset, .unset, .unset] [(.ref (if (p1 &&& (1 : Int32)) = (0 : Int32) then s_MALE else s_FEMALE))])) t → Steps p.tables e below (s₁.setTop (entryFrame m #[(.int p1), (.int p2), (.int p3), (.int p4), (.int p5)] maxLocals)) t := by
    by_cases hc7 : (p1 &&& (1 : Int32)) = (0 : Int32)
    · obtain ⟨T9, X9, e9, st9⟩ := getS2 X0 hx hZ hown (host := "") (Or.inl (hw _ (List.mem_of_getElem? (i := 0) rfl))) Via.refl e0 S_MALE (g := (mkF m 6 #[.val (.int p1), .val (.int p2), .val (.int p3), .val (.int p4), .val (.int p5), .unset, .unset, .unset, .unset, .unset, .unset, .unset] [])) rfl (hb hby at_6)
      refine ⟨T9, X9, e9, fun t k => ?_⟩
      rw [if_pos hc7] at k
      refine pre0 t ?_
      show Steps p.tables e below (s₁.setTop (mkF m 0 #[.val (.int p1), .val (.int p2), .val (.int p3), .val (.int p4), .val (.int p5), .unset, .unset, .unset, .unset, .unset, .unset, .unset] [])) _
      refine XS.iloadN X0.here hx rfl (hb hby at_0) rfl ?_
      show Steps p.tables e below (s₁.setTop (mkF m 1 #[.val (.int p1), .val (.int p2), .val (.int p3), .val (.int p4), .val (.int p5), .unset, .unset, .unset, .unset, .unset, .unset, .unset] [(.int p1)])) _
      refine XS.iconst X0.here hx rfl (hb hby at_1) ?_
      show Steps p.tables e below (s₁.setTop (mkF m 2 #[.val (.int p1), .val (.int p2), .val (.int p3), .val (.int p4), .val (.int p5), .unset, .unset, .unset, .unset, .unset, .unset, .unset] [(.int (1 : Int32)), (.int p1)])) _
      refine XS.iand X0.here hx rfl (hb hby at_2) rfl ?_
      show Steps p.tables e below (s₁.setTop (mkF m 3 #[.val (.int p1), .val (.int p2), .val (.int p3), .val (.int p4), .val (.int p5), .unset, .unset, .unset, .unset, .unset, .unset, .unset] [(.int (p1 &&& (1 : Int32)))])) _
      refine XS.ifNo X0.here hx rfl (hb hby at_3) rfl ((if0 _ _).trans (teq hc7).2) ?_
      show Steps p.tables e below (s₁.setTop (mkF m 6 #[.val (.int p1), .val (.int p2), .val (.int p3), .val (.int p4), .val (.int p5), .unset, .unset, .unset, .unset, .unset, .unset, .unset] [])) _
      refine st9 _ ?_
      show Steps p.tables e below (T9.setTop (mkF m 9 #[.val (.int p1), .val (.int p2), .val (.int p3), .val (.int p4), .val (.int p5), .unset, .unset, .unset, .unset, .unset, .unset, .unset] [(.ref s_MALE)])) _
      refine XS.goto X9.here hx rfl (pc0 := 9) (pc' := 15) rfl (hb hby at_9) (by decide) (by decide) ?_
      exact k
    · obtain ⟨T10, X10, e10, st10⟩ := getS2 X0 hx hZ hown (host := "") (Or.inl (hw _ (List.mem_of_getElem? (i := 23) rfl))) Via.refl e0 S_FEMALE (g := (mkF m 12 #[.val (.int p1), .val (.int p2), .val (.int p3), .val (.int p4), .val (.int p5), .unset, .unset, .unset, .unset, .unset, .unset, .unset] [])) rfl (hb hby at_12)
      refine ⟨T10, X10, e10, fun t k => ?_⟩
      rw [if_neg hc7] at k
      refine pre0 t ?_
      show Steps p.tables e below (s₁.setTop (mkF m 0 #[.val (.int p1), .val (.int p2), .val (.int p3), .val (.int p4), .val (.int p5), .unset, .unset, .unset, .unset, .unset, .unset, .unset] [])) _
      refine XS.iloadN X0.here hx rfl (hb hby at_0) rfl ?_
      show Steps p.tables e below (s₁.setTop (mkF m 1 #[.val (.int p1), .val (.int p2), .val (.int p3), .val (.int p4), .val (.int p5), .unset, .unset, .unset, .unset, .unset, .unset, .unset] [(.int p1)])) _
      refine XS.iconst X0.here hx rfl (hb hby at_1) ?_
      show Steps p.tables e below (s₁.setTop (mkF m 2 #[.val (.int p1), .val (.int p2), .val (.int p3), .val (.int p4), .val (.int p5), .unset, .unset, .unset, .unset, .unset, .unset, .unset] [(.int (1 : Int32)), (.int p1)])) _
      refine XS.iand X0.here hx rfl (hb hby at_2) rfl ?_
      show Steps p.tables e below (s₁.setTop (mkF m 3 #[.val (.int p1), .val (.int p2), .val (.int p3), .val (.int p4), .val (.int p5), .unset, .unset, .unset, .unset, .unset, .unset, .unset] [(.int (p1 &&& (1 : Int32)))])) _
      refine XS.ifYes X0.here hx rfl (pc0 := 3) (pc' := 12) rfl (hb hby at_3) rfl ((if0 _ _).trans (feq hc7).2) (by decide) (by decide) ?_
      show Steps p.tables e below (s₁.setTop (mkF m 12 #[.val (.int p1), .val (.int p2), .val (.int p3), .val (.int p4), .val (.int p5), .unset, .unset, .unset, .unset, .unset, .unset, .unset] [])) _
      refine st10 _ ?_
      exact k
  obtain ⟨T13, X13, e13, pr11⟩ : ∃ T13, Stand p l e room_1 s m #[(.int p1), (.int p2), (.int p3), (.int p4), (.int p5)] below meth c T13 [] 0 0 ∧ T13.heap = h0 ∧ ∀ t, Steps p.tables e below (T13.setTop (mkF m 32 #[.val (.int p1), .val (.int p2), .val (.int p3), .val (.int p4), .val (.int p5), .val (.ref (if (p1 &&& (1 : Int32)) = (0 : Int32) then s_MALE else s_FEMALE)), .unset, .unset, .unset, .unset, .unset, .unset] [(.ref (if (p3 &&& (1 : Int32)) = (0 : Int32) then s_MALE else s_FEMALE))])) t → Steps p.tables e below (s₁.setTop (entryFrame m #[(.int p1), (.int p2), (.int p3), (.int p4), (.int p5)] maxLocals)) t := by
    by_cases hc12 : (p3 &&& (1 : Int32)) = (0 : Int32)
    · obtain ⟨T14, X14, e14, st14⟩ := getS2 X8 hx hZ hown (host := "") (Or.inl (hw _ (List.mem_of_getElem? (i := 0) rfl))) Via.refl e8 S_MALE (g := (mkF m 23 #[.val (.int p1), .val (.int p2), .val (.int p3), .val (.int p4), .val (.int p5), .val (.ref (if (p1 &&& (1 : Int32)) = (0 : Int32) then s_MALE else s_FEMALE)), .unset, .unset, .unset, .unset, .unset, .unset] [])) rfl (hb hby at_23)
      refine ⟨T14, X14, e14, fun t k => ?_⟩
      rw [if_pos hc12] at k
      refine pr6 t ?_
      show Steps p.tables e below (T8.setTop (mkF m 15 #[.val (.int p1), .val (.int p2), .val (.int p3), .val (.int p4), .val (.int p5), .unset, .unset, .unset, .unset, .unset, .unset, .unset] [(.ref (if (p1 &&& (1 : Int32)) = (0 : Int32) then s_MALE else s_FEMALE))])) _
      refine XS.astore X8.here hx rfl (hb hby at_15) rfl rfl (l' := #[.val (.int p1), .val (.int p2), .val (.int p3), .val (.int p4), .val (.int p5), .val (.ref (if (p1 &&& (1 : Int32)) = (0 : Int32) then s_MALE else s_FEMALE)), .unset, .unset, .unset, .unset, .unset, .unset]) rfl ?_
      show Steps p.tables e below (T8.setTop (mkF m 17 #[.val (.int p1), .val (.int p2), .val (.int p3), .val (.int p4), .val (.int p5), .val (.ref (if (p1 &&& (1 : Int32)) = (0 : Int32) then s_MALE else s_FEMALE)), .unset, .unset, .unset, .unset, .unset, .unset] [])) _
      refine XS.iloadN X8.here hx rfl (hb hby at_17) rfl ?_
      show Steps p.tables e below (T8.setTop (mkF m 18 #[.val (.int p1), .val (.int p2), .val (.int p3), .val (.int p4), .val (.int p5), .val (.ref (if (p1 &&& (1 : Int32)) = (0 : Int32) then s_MALE else s_FEMALE)), .unset, .unset, .unset, .unset, .unset, .unset] [(.int p3)])) _
      refine XS.iconst X8.here hx rfl (hb hby at_18) ?_
      show Steps p.tables e below (T8.setTop (mkF m 19 #[.val (.int p1), .val (.int p2), .val (.int p3), .val (.int p4), .val (.int p5), .val (.ref (if (p1 &&& (1 : Int32)) = (0 : Int32) then s_MALE else s_FEMALE)), .unset, .unset, .unset, .unset, .unset, .unset] [(.int (1 : Int32)), (.int p3)])) _
      refine XS.iand X8.here hx rfl (hb hby at_19) rfl ?_
      show Steps p.tables e below (T8.setTop (mkF m 20 #[.val (.int p1), .val (.int p2), .val (.int p3), .val (.int p4), .val (.int p5), .val (.ref (if (p1 &&& (1 : Int32)) = (0 : Int32) then s_MALE else s_FEMALE)), .unset, .unset, .unset, .unset, .unset, .unset] [(.int (p3 &&& (1 : Int32)))])) _
      refine XS.ifNo X8.here hx rfl (hb hby at_20) rfl ((if0 _ _).trans (teq hc12).2) ?_
      show Steps p.tables e below (T8.setTop (mkF m 23 #[.val (.int p1), .val (.int p2), .val (.int p3), .val (.int p4), .val (.int p5), .val (.ref (if (p1 &&& (1 : Int32)) = (0 : Int32) then s_MALE else s_FEMALE)), .unset, .unset, .unset, .unset, .unset, .unset] [])) _
      refine st14 _ ?_
      show Steps p.tables e below (T14.setTop (mkF m 26 #[.val (.int p1), .val (.int p2), .val (.int p3), .val (.int p4), .val (.int p5), .val (.ref (if (p1 &&& (1 : Int32)) = (0 : Int32) then s_MALE else s_FEMALE)), .unset, .unset, .unset, .unset, .unset, .unset] [(.ref s_MALE)])) _
      refine XS.goto X14.here hx rfl (pc0 := 26) (pc' := 32) rfl (hb hby at_26) (by decide) (by decide) ?_
      exact k
    · obtain ⟨T15, X15, e15, st15⟩ := getS2 X8 hx hZ hown (host := "") (Or.inl (hw _ (List.mem_of_getElem? (i := 23) rfl))) Via.refl e8 S_FEMALE (g := (mkF m 29 #[.val (.int p1), .val (.int p2), .val (.int p3), .val (.int p4), .val (.int p5), .val (.ref (if (p1 &&& (1 : Int32)) = (0 : Int32) then s_MALE else s_FEMALE)), .unset, .unset, .unset, .unset, .unset, .unset] [])) rfl (hb hby at_29)
      refine ⟨T15, X15, e15, fun t k => ?_⟩
      rw [if_neg hc12] at k
      refine pr6 t ?_
      show Steps p.tables e below (T8.setTop (mkF m 15 #[.val (.int p1), .val (.int p2), .val (.int p3), .val (.int p4), .val (.int p5), .unset, .unset, .unset, .unset, .unset, .unset, .unset] [(.ref (if (p1 &&& (1 : Int32)) = (0 : Int32) then s_MALE else s_FEMALE))])) _
      refine XS.astore X8.here hx rfl (hb hby at_15) rfl rfl (l' := #[.val (.int p1), .val (.int p2), .val (.int p3), .val (.int p4), .val (.int p5), .val (.ref (if (p1 &&& (1 : Int32)) = (0 : Int32) then s_MALE else s_FEMALE)), .unset, .unset, .unset, .unset, .unset, .unset]) rfl ?_
      show Steps p.tables e below (T8.setTop (mkF m 17 #[.val (.int p1), .val (.int p2), .val (.int p3), .val (.int p4), .val (.int p5), .val (.ref (if (p1 &&& (1 : Int32)) = (0 : Int32) then s_MALE else s_FEMALE)), .unset, .unset, .unset, .unset, .unset, .unset] [])) _
      refine XS.iloadN X8.here hx rfl (hb hby at_17) rfl ?_
      show Steps p.tables e below (T8.setTop (mkF m 18 #[.val (.int p1), .val (.int p2), .val (.int p3), .val (.int p4), .val (.int p5), .val (.ref (if (p1 &&& (1 : Int32)) = (0 : Int32) then s_MALE else s_FEMALE)), .unset, .unset, .unset, .unset, .unset, .unset] [(.int p3)])) _
      refine XS.iconst X8.here hx rfl (hb hby at_18) ?_
      show Steps p.tables e below (T8.setTop (mkF m 19 #[.val (.int p1), .val (.int p2), .val (.int p3), .val (.int p4), .val (.int p5), .val (.ref (if (p1 &&& (1 : Int32)) = (0 : Int32) then s_MALE else s_FEMALE)), .unset, .unset, .unset, .unset, .unset, .unset] [(.int (1 : Int32)), (.int p3)])) _
      refine XS.iand X8.here hx rfl (hb hby at_19) rfl ?_
      show Steps p.tables e below (T8.setTop (mkF m 20 #[.val (.int p1), .val (.int p2), .val (.int p3), .val (.int p4), .val (.int p5), .val (.ref (if (p1 &&& (1 : Int32)) = (0 : Int32) then s_MALE else s_FEMALE)), .unset, .unset, .unset, .unset, .unset, .unset] [(.int (p3 &&& (1 : Int32)))])) _
      refine XS.ifYes X8.here hx rfl (pc0 := 20) (pc' := 29) rfl (hb hby at_20) rfl ((if0 _ _).trans (feq hc12).2) (by decide) (by decide) ?_
      show Steps p.tables e below (T8.setTop (mkF m 29 #[.val (.int p1), .val (.int p2), .val (.int p3), .val (.int p4), .val (.int p5), .val (.ref (if (p1 &&& (1 : Int32)) = (0 : Int32) then s_MALE else s_FEMALE)), .unset, .unset, .unset, .unset, .unset, .unset] [])) _
      refine st15 _ ?_
      exact k
  have pr16 : ∀ t, Steps p.tables e below (T13.setTop (mkF m 46 #[.val (.int p1), .val (.int p2), .val (.int p3), .val (.int p4), .val (.int p5), .val (.ref (if (p1 &&& (1 : Int32)) = (0 : Int32) then s_MALE else s_FEMALE)), .val (.ref (if (p3 &&& (1 : Int32)) = (0 : Int32) then s_MALE else s_FEMALE)), .unset, .unset, .unset, .unset, .unset] [(.int (if (p5 &&& (1 : Int32)) = (0 : Int32) then p4 else p2))])) t → Steps p.tables e below (s₁.setTop (entryFrame m #[(.int p1), (.int p2), (.int p3), (.int p4), (.int p5)] maxLocals)) t := by
    intro t k
    refine pr11 t ?_
    show Steps p.tables e below (T13.setTop (mkF m 32 #[.val (.int p1), .val (.int p2), .val (.int p3), .val (.int p4), .val (.int p5), .val (.ref (if (p1 &&& (1 : Int32)) = (0 : Int32) then s_MALE else s_FEMALE)), .unset, .unset, .unset, .unset, .unset, .unset] [(.ref (if (p3 &&& (1 : Int32)) = (0 : Int32) then s_MALE else s_FEMALE))])) _
    refine XS.astore X13.here hx rfl (hb hby at_32) rfl rfl (l' := #[.val (.int p1), .val (.int p2), .val (.int p3), .val (.int p4), .val (.int p5), .val (.ref (if (p1 &&& (1 : Int32)) = (0 : Int32) then s_MALE else s_FEMALE)), .val (.ref (if (p3 &&& (1 : Int32)) = (0 : Int32) then s_MALE else s_FEMALE)), .unset, .unset, .unset, .unset, .unset]) rfl ?_
    show Steps p.tables e below (T13.setTop (mkF m 34 #[.val (.int p1), .val (.int p2), .val (.int p3), .val (.int p4), .val (.int p5), .val (.ref (if (p1 &&& (1 : Int32)) = (0 : Int32) then s_MALE else s_FEMALE)), .val (.ref (if (p3 &&& (1 : Int32)) = (0 : Int32) then s_MALE else s_FEMALE)), .unset, .unset, .unset, .unset, .unset] [])) _
    refine XS.iload X13.here hx rfl (hb hby at_34) rfl ?_
    show Steps p.tables e below (T13.setTop (mkF m 36 #[.val (.int p1), .val (.int p2), .val (.int p3), .val (.int p4), .val (.int p5), .val (.ref (if (p1 &&& (1 : Int32)) = (0 : Int32) then s_MALE else s_FEMALE)), .val (.ref (if (p3 &&& (1 : Int32)) = (0 : Int32) then s_MALE else s_FEMALE)), .unset, .unset, .unset, .unset, .unset] [(.int p5)])) _
    refine XS.iconst X13.here hx rfl (hb hby at_36) ?_
    show Steps p.tables e below (T13.setTop (mkF m 37 #[.val (.int p1), .val (.int p2), .val (.int p3), .val (.int p4), .val (.int p5), .val (.ref (if (p1 &&& (1 : Int32)) = (0 : Int32) then s_MALE else s_FEMALE)), .val (.ref (if (p3 &&& (1 : Int32)) = (0 : Int32) then s_MALE else s_FEMALE)), .unset, .unset, .unset, .unset, .unset] [(.int (1 : Int32)), (.int p5)])) _
    refine XS.iand X13.here hx rfl (hb hby at_37) rfl ?_
    show Steps p.tables e below (T13.setTop (mkF m 38 #[.val (.int p1), .val (.int p2), .val (.int p3), .val (.int p4), .val (.int p5), .val (.ref (if (p1 &&& (1 : Int32)) = (0 : Int32) then s_MALE else s_FEMALE)), .val (.ref (if (p3 &&& (1 : Int32)) = (0 : Int32) then s_MALE else s_FEMALE)), .unset, .unset, .unset, .unset, .unset] [(.int (p5 &&& (1 : Int32)))])) _
    by_cases hc17 : (p5 &&& (1 : Int32)) = (0 : Int32)
    · rw [if_pos hc17] at k
      refine XS.ifYes X13.here hx rfl (pc0 := 38) (pc' := 45) rfl (hb hby at_38) rfl ((if0 _ _).trans (teq hc17).1) (by decide) (by decide) ?_
      show Steps p.tables e below (T13.setTop (mkF m 45 #[.val (.int p1), .val (.int p2), .val (.int p3), .val (.int p4), .val (.int p5), .val (.ref (if (p1 &&& (1 : Int32)) = (0 : Int32) then s_MALE else s_FEMALE)), .val (.ref (if (p3 &&& (1 : Int32)) = (0 : Int32) then s_MALE else s_FEMALE)), .unset, .unset, .unset, .unset, .unset] [])) _
      refine XS.iloadN X13.here hx rfl (hb hby at_45) rfl ?_
      exact k
    · rw [if_neg hc17] at k
      refine XS.ifNo X13.here hx rfl (hb hby at_38) rfl ((if0 _ _).trans (feq hc17).1) ?_
      show Steps p.tables e below (T13.setTop (mkF m 41 #[.val (.int p1), .val (.int p2), .val (.int p3), .val (.int p4), .val (.int p5), .val (.ref (if (p1 &&& (1 : Int32)) = (0 : Int32) then s_MALE else s_FEMALE)), .val (.ref (if (p3 &&& (1 : Int32)) = (0 : Int32) then s_MALE else s_FEMALE)), .unset, .unset, .unset, .unset, .unset] [])) _
      refine XS.iloadN X13.here hx rfl (hb hby at_41) rfl ?_
      show Steps p.tables e below (T13.setTop (mkF m 42 #[.val (.int p1), .val (.int p2), .val (.int p3), .val (.int p4), .val (.int p5), .val (.ref (if (p1 &&& (1 : Int32)) = (0 : Int32) then s_MALE else s_FEMALE)), .val (.ref (if (p3 &&& (1 : Int32)) = (0 : Int32) then s_MALE else s_FEMALE)), .unset, .unset, .unset, .unset, .unset] [(.int p2)])) _
      refine XS.goto X13.here hx rfl (pc0 := 42) (pc' := 46) rfl (hb hby at_42) (by decide) (by decide) ?_
      exact k
  obtain ⟨T19, h19, X19, e19, E19, A19, D19, -, st19⟩ := newO X13 hx hZ hown (hw _ (List.mem_of_getElem? (i := 3) rfl)) (hw _ (List.mem_of_getElem? (i := 4) rfl)) (hw _ (List.mem_of_getElem? (i := 5) rfl)) e13 (g := (mkF m 48 #[.val (.int p1), .val (.int p2), .val (.int p3), .val (.int p4), .val (.int p5), .val (.ref (if (p1 &&& (1 : Int32)) = (0 : Int32) then s_MALE else s_FEMALE)), .val (.ref (if (p3 &&& (1 : Int32)) = (0 : Int32) then s_MALE else s_FEMALE)), .val (.int (if (p5 &&& (1 : Int32)) = (0 : Int32) then p4 else p2)), .unset, .unset, .unset, .unset] [])) rfl (hb hby at_48) (by decide) (by decide)
  obtain ⟨b19, g19⟩ : ∃ z, z = h0.size := ⟨_, rfl⟩
  rw [← g19] at A19 D19 st19
  have g_b19 : n0 ≤ b19 := Nat.le_trans Z0 (Nat.le_of_eq g19.symm)
  have sz_b19 : h0.size ≤ b19 := Nat.le_trans (Keep.refl h0 []).1 (Nat.le_of_eq g19.symm)
  have Z19 : n0 ≤ h19.size := Nat.le_trans Z0 E19.1
  have KK19 := (Keep.ext (Keep.refl h0 []) E19)
  have F19_sex : Fld Z h19 b19 "com/example/vestbook/vestbook/engine/Life" "sex" "Lcom/example/vestbook/vestbook/engine/Sex;" .null := D19 (Or.inr (hw _ (List.mem_of_getElem? (i := 13) rfl))) (ty := (.object "com/example/vestbook/vestbook/engine/Sex")) (by decide)
  have F19_age : Fld Z h19 b19 "com/example/vestbook/vestbook/engine/Life" "age" "I" (.int (0 : Int32)) := D19 (Or.inr (hw _ (List.mem_of_getElem? (i := 15) rfl))) (ty := .int) (by decide)
  obtain ⟨_, _, ⟨T20, L20, k20, n20⟩, -, X20, ⟨Lc20, hQ20, l20, y20, z20⟩, st20⟩ := X19.specialBack hx (y := (⟨"com/example/vestbook/vestbook/engine/Life", "<init>", "(Lcom/example/vestbook/vestbook/engine/Sex;I)V"⟩ : MethodName)) rfl hown (mvT hZ (hw _ (List.mem_of_getElem? (i := 6) rfl))) (mvT hZ (hw _ (List.mem_of_getElem? (i := 7) rfl))) (mvT hZ (hw _ (List.mem_of_getElem? (i := 8) rfl))) (by decide) (backOf (W := 1) (rm1 l Z a0 hw [] b19 (if (p1 &&& (1 : Int32)) = (0 : Int32) then s_MALE else s_FEMALE) p2 .null (.int (0 : Int32)) h19 n0 Z19 g_b19 A19 F19_sex F19_age) hZ (hw _ (List.mem_of_getElem? (i := 8) rfl)) (hw _ (List.mem_of_getElem? (i := 5) rfl)) (by decide) (by decide)) (g := (mkF m 55 #[.val (.int p1), .val (.int p2), .val (.int p3), .val (.int p4), .val (.int p5), .val (.ref (if (p1 &&& (1 : Int32)) = (0 : Int32) then s_MALE else s_FEMALE)), .val (.ref (if (p3 &&& (1 : Int32)) = (0 : Int32) then s_MALE else s_FEMALE)), .val (.int (if (p5 &&& (1 : Int32)) = (0 : Int32) then p4 else p2)), .unset, .unset, .unset, .unset] [(.int p2), (.ref (if (p1 &&& (1 : Int32)) = (0 : Int32) then s_MALE else s_FEMALE)), (.ref b19), (.ref b19)])) rfl (by rw [hml]; rfl) (Steps.refl _) (a := b19) (argsL := [(.ref (if (p1 &&& (1 : Int32)) = (0 : Int32) then s_MALE else s_FEMALE)), (.int p2)]) (rest := [(.ref b19)]) (lenOf pd_0_0 rfl) rfl (by show 2 * 0 + _ ≤ _; exact Nat.le_of_eq rfl) (hb hby at_55) (fun _ _ => ⟨rfl, e19, (by decide : 1 + 0 ≤ _), (by decide : 2 + 0 ≤ _)⟩)
  dsimp only [Pt.U, Pt.locs, Pt.cells, Pt.slots] at X20 l20 y20 z20 st20 hQ20
  subst l20 y20 z20
  obtain ⟨rfl, N20q, K20, A20, G20_sex, G20_age⟩ := hQ20
  have N20 := Fr.app N0 N20q
  have Z20 : n0 ≤ T20.heap.size := Nat.le_trans Z19 K20.1
  have KK20 := Keep.trans KK19 K20 (allS (Or.inr sz_b19) all0)
  obtain ⟨T21, h21, X21, e21, E21, A21, D21, -, st21⟩ := newO X20 hx hZ hown (hw _ (List.mem_of_getElem? (i := 3) rfl)) (hw _ (List.mem_of_getElem? (i := 4) rfl)) (hw _ (List.mem_of_getElem? (i := 5) rfl)) rfl (g := (mkF m 60 #[.val (.int p1), .val (.int p2), .val (.int p3), .val (.int p4), .val (.int p5), .val (.ref (if (p1 &&& (1 : Int32)) = (0 : Int32) then s_MALE else s_FEMALE)), .val (.ref (if (p3 &&& (1 : Int32)) = (0 : Int32) then s_MALE else s_FEMALE)), .val (.int (if (p5 &&& (1 : Int32)) = (0 : Int32) then p4 else p2)), .val (.ref b19), .unset, .unset, .unset] [])) rfl (hb hby at_60) (by decide) (by decide)
  obtain ⟨b21, g21⟩ : ∃ z, z = T20.heap.size := ⟨_, rfl⟩
  rw [← g21] at A21 D21 st21
  have g_b21 : n0 ≤ b21 := Nat.le_trans Z20 (Nat.le_of_eq g21.symm)
  have sz_b21 : h0.size ≤ b21 := Nat.le_trans KK20.1 (Nat.le_of_eq g21.symm)
  have Z21 : n0 ≤ h21.size := Nat.le_trans Z20 E21.1
  have KK21 := (Keep.ext KK20 E21)
  have F21_sex : Fld Z h21 b21 "com/example/vestbook/vestbook/engine/Life" "sex" "Lcom/example/vestbook/vestbook/engine/Sex;" .null := D21 (Or.inr (hw _ (List.mem_of_getElem? (i := 13) rfl))) (ty := (.object "com/example/vestbook/vestbook/engine/Sex")) (by decide)
  have F21_age : Fld Z h21 b21 "com/example/vestbook/vestbook/engine/Life" "age" "I" (.int (0 : Int32)) := D21 (Or.inr (hw _ (List.mem_of_getElem? (i := 15) rfl))) (ty := .int) (by decide)
  obtain ⟨_, _, ⟨T22, L22, k22, n22⟩, -, X22, ⟨Lc22, hQ22, l22, y22, z22⟩, st22⟩ := X21.specialBack hx (y := (⟨"com/example/vestbook/vestbook/engine/Life", "<init>", "(Lcom/example/vestbook/vestbook/engine/Sex;I)V"⟩ : MethodName)) rfl hown (mvT hZ (hw _ (List.mem_of_getElem? (i := 6) rfl))) (mvT hZ (hw _ (List.mem_of_getElem? (i := 7) rfl))) (mvT hZ (hw _ (List.mem_of_getElem? (i := 8) rfl))) (by decide) (backOf (W := 1) (rm1 l Z a0 hw [] b21 (if (p3 &&& (1 : Int32)) = (0 : Int32) then s_MALE else s_FEMALE) (if (p5 &&& (1 : Int32)) = (0 : Int32) then p4 else p2) .null (.int (0 : Int32)) h21 n0 Z21 g_b21 A21 F21_sex F21_age) hZ (hw _ (List.mem_of_getElem? (i := 8) rfl)) (hw _ (List.mem_of_getElem? (i := 5) rfl)) (by decide) (by decide)) (g := (mkF m 68 #[.val (.int p1), .val (.int p2), .val (.int p3), .val (.int p4), .val (.int p5), .val (.ref (if (p1 &&& (1 : Int32)) = (0 : Int32) then s_MALE else s_FEMALE)), .val (.ref (if (p3 &&& (1 : Int32)) = (0 : Int32) then s_MALE else s_FEMALE)), .val (.int (if (p5 &&& (1 : Int32)) = (0 : Int32) then p4 else p2)), .val (.ref b19), .unset, .unset, .unset] [(.int (if (p5 &&& (1 : Int32)) = (0 : Int32) then p4 else p2)), (.ref (if (p3 &&& (1 : Int32)) = (0 : Int32) then s_MALE else s_FEMALE)), (.ref b21), (.ref b21)])) rfl (by rw [hml]; rfl) (Steps.refl _) (a := b21) (argsL := [(.ref (if (p3 &&& (1 : Int32)) = (0 : Int32) then s_MALE else s_FEMALE)), (.int (if (p5 &&& (1 : Int32)) = (0 : Int32) then p4 else p2))]) (rest := [(.ref b21)]) (lenOf pd_0_0 rfl) rfl (by show 2 * 0 + _ ≤ _; exact Nat.le_of_eq rfl) (hb hby at_68) (fun _ _ => ⟨rfl, e21, (by decide : 2 + 0 ≤ _), (by decide : 4 + 0 ≤ _)⟩)
  dsimp only [Pt.U, Pt.locs, Pt.cells, Pt.slots] at X22 l22 y22 z22 st22 hQ22
  subst l22 y22 z22
  obtain ⟨rfl, N22q, K22, A22, G22_sex, G22_age⟩ := hQ22
  have N22 := Fr.app N20 N22q
  have Z22 : n0 ≤ T22.heap.size := Nat.le_trans Z21 K22.1
  have KK22 := Keep.trans KK21 K22 (allS (Or.inr sz_b21) all0)
  have pr24 : ∀ t, Steps p.tables e below (T22.setTop (mkF m 83 #[.val (.int p1), .val (.int p2), .val (.int p3), .val (.int p4), .val (.int p5), .val (.ref (if (p1 &&& (1 : Int32)) = (0 : Int32) then s_MALE else s_FEMALE)), .val (.ref (if (p3 &&& (1 : Int32)) = (0 : Int32) then s_MALE else s_FEMALE)), .val (.int (if (p5 &&& (1 : Int32)) = (0 : Int32) then p4 else p2)), .val (.ref b19), .val (.ref b21), .val (.int (((p5.toUInt32 >>> ((1 : Int32) &&& 31).toUInt32).toInt32) &&& (3 : Int32))), .unset] [(.int (((p5.toUInt32 >>> ((1 : Int32) &&& 31).toUInt32).toInt32) &&& (3 : Int32)))])) t → Steps p.tables e below (s₁.setTop (entryFrame m #[(.int p1), (.int p2), (.int p3), (.int p4), (.int p5)] maxLocals)) t := by
    intro t k
    refine pr16 t ?_
    show Steps p.tables e below (T13.setTop (mkF m 46 #[.val (.int p1), .val (.int p2), .val (.int p3), .val (.int p4), .val (.int p5), .val (.ref (if (p1 &&& (1 : Int32)) = (0 : Int32) then s_MALE else s_FEMALE)), .val (.ref (if (p3 &&& (1 : Int32)) = (0 : Int32) then s_MALE else s_FEMALE)), .unset, .unset, .unset, .unset, .unset] [(.int (if (p5 &&& (1 : Int32)) = (0 : Int32) then p4 else p2))])) _
    refine XS.istore X13.here hx rfl (hb hby at_46) rfl (l' := #[.val (.int p1), .val (.int p2), .val (.int p3), .val (.int p4), .val (.int p5), .val (.ref (if (p1 &&& (1 : Int32)) = (0 : Int32) then s_MALE else s_FEMALE)), .val (.ref (if (p3 &&& (1 : Int32)) = (0 : Int32) then s_MALE else s_FEMALE)), .val (.int (if (p5 &&& (1 : Int32)) = (0 : Int32) then p4 else p2)), .unset, .unset, .unset, .unset]) rfl ?_
    show Steps p.tables e below (T13.setTop (mkF m 48 #[.val (.int p1), .val (.int p2), .val (.int p3), .val (.int p4), .val (.int p5), .val (.ref (if (p1 &&& (1 : Int32)) = (0 : Int32) then s_MALE else s_FEMALE)), .val (.ref (if (p3 &&& (1 : Int32)) = (0 : Int32) then s_MALE else s_FEMALE)), .val (.int (if (p5 &&& (1 : Int32)) = (0 : Int32) then p4 else p2)), .unset, .unset, .unset, .unset] [])) _
    refine st19 _ ?_
    show Steps p.tables e below (T19.setTop (mkF m 51 #[.val (.int p1), .val (.int p2), .val (.int p3), .val (.int p4), .val (.int p5), .val (.ref (if (p1 &&& (1 : Int32)) = (0 : Int32) then s_MALE else s_FEMALE)), .val (.ref (if (p3 &&& (1 : Int32)) = (0 : Int32) then s_MALE else s_FEMALE)), .val (.int (if (p5 &&& (1 : Int32)) = (0 : Int32) then p4 else p2)), .unset, .unset, .unset, .unset] [(.ref b19)])) _
    refine XS.dup X19.here hx rfl (hb hby at_51) rfl rfl ?_
    show Steps p.tables e below (T19.setTop (mkF m 52 #[.val (.int p1), .val (.int p2), .val (.int p3), .val (.int p4), .val (.int p5), .val (.ref (if (p1 &&& (1 : Int32)) = (0 : Int32) then s_MALE else s_FEMALE)), .val (.ref (if (p3 &&& (1 : Int32)) = (0 : Int32) then s_MALE else s_FEMALE)), .val (.int (if (p5 &&& (1 : Int32)) = (0 : Int32) then p4 else p2)), .unset, .unset, .unset, .unset] [(.ref b19), (.ref b19)])) _
    refine XS.aload X19.here hx rfl (hb hby at_52) rfl rfl ?_
    show Steps p.tables e below (T19.setTop (mkF m 54 #[.val (.int p1), .val (.int p2), .val (.int p3), .val (.int p4), .val (.int p5), .val (.ref (if (p1 &&& (1 : Int32)) = (0 : Int32) then s_MALE else s_FEMALE)), .val (.ref (if (p3 &&& (1 : Int32)) = (0 : Int32) then s_MALE else s_FEMALE)), .val (.int (if (p5 &&& (1 : Int32)) = (0 : Int32) then p4 else p2)), .unset, .unset, .unset, .unset] [(.ref (if (p1 &&& (1 : Int32)) = (0 : Int32) then s_MALE else s_FEMALE)), (.ref b19), (.ref b19)])) _
    refine XS.iloadN X19.here hx rfl (hb hby at_54) rfl ?_
    show Steps p.tables e below (T19.setTop (mkF m 55 #[.val (.int p1), .val (.int p2), .val (.int p3), .val (.int p4), .val (.int p5), .val (.ref (if (p1 &&& (1 : Int32)) = (0 : Int32) then s_MALE else s_FEMALE)), .val (.ref (if (p3 &&& (1 : Int32)) = (0 : Int32) then s_MALE else s_FEMALE)), .val (.int (if (p5 &&& (1 : Int32)) = (0 : Int32) then p4 else p2)), .unset, .unset, .unset, .unset] [(.int p2), (.ref (if (p1 &&& (1 : Int32)) = (0 : Int32) then s_MALE else s_FEMALE)), (.ref b19), (.ref b19)])) _
    refine st20.trans ?_
    show Steps p.tables e below (T20.setTop (mkF m 58 #[.val (.int p1), .val (.int p2), .val (.int p3), .val (.int p4), .val (.int p5), .val (.ref (if (p1 &&& (1 : Int32)) = (0 : Int32) then s_MALE else s_FEMALE)), .val (.ref (if (p3 &&& (1 : Int32)) = (0 : Int32) then s_MALE else s_FEMALE)), .val (.int (if (p5 &&& (1 : Int32)) = (0 : Int32) then p4 else p2)), .unset, .unset, .unset, .unset] [(.ref b19)])) _
    refine XS.astore X20.here hx rfl (hb hby at_58) rfl rfl (l' := #[.val (.int p1), .val (.int p2), .val (.int p3), .val (.int p4), .val (.int p5), .val (.ref (if (p1 &&& (1 : Int32)) = (0 : Int32) then s_MALE else s_FEMALE)), .val (.ref (if (p3 &&& (1 : Int32)) = (0 : Int32) then s_MALE else s_FEMALE)), .val (.int (if (p5 &&& (1 : Int32)) = (0 : Int32) then p4 else p2)), .val (.ref b19), .unset, .unset, .unset]) rfl ?_
    show Steps p.tables e below (T20.setTop (mkF m 60 #[.val (.int p1), .val (.int p2), .val (.int p3), .val (.int p4), .val (.int p5), .val (.ref (if (p1 &&& (1 : Int32)) = (0 : Int32) then s_MALE else s_FEMALE)), .val (.ref (if (p3 &&& (1 : Int32)) = (0 : Int32) then s_MALE else s_FEMALE)), .val (.int (if (p5 &&& (1 : Int32)) = (0 : Int32) then p4 else p2)), .val (.ref b19), .unset, .unset, .unset] [])) _
    refine st21 _ ?_
    show Steps p.tables e below (T21.setTop (mkF m 63 #[.val (.int p1), .val (.int p2), .val (.int p3), .val (.int p4), .val (.int p5), .val (.ref (if (p1 &&& (1 : Int32)) = (0 : Int32) then s_MALE else s_FEMALE)), .val (.ref (if (p3 &&& (1 : Int32)) = (0 : Int32) then s_MALE else s_FEMALE)), .val (.int (if (p5 &&& (1 : Int32)) = (0 : Int32) then p4 else p2)), .val (.ref b19), .unset, .unset, .unset] [(.ref b21)])) _
    refine XS.dup X21.here hx rfl (hb hby at_63) rfl rfl ?_
    show Steps p.tables e below (T21.setTop (mkF m 64 #[.val (.int p1), .val (.int p2), .val (.int p3), .val (.int p4), .val (.int p5), .val (.ref (if (p1 &&& (1 : Int32)) = (0 : Int32) then s_MALE else s_FEMALE)), .val (.ref (if (p3 &&& (1 : Int32)) = (0 : Int32) then s_MALE else s_FEMALE)), .val (.int (if (p5 &&& (1 : Int32)) = (0 : Int32) then p4 else p2)), .val (.ref b19), .unset, .unset, .unset] [(.ref b21), (.ref b21)])) _
    refine XS.aload X21.here hx rfl (hb hby at_64) rfl rfl ?_
    show Steps p.tables e below (T21.setTop (mkF m 66 #[.val (.int p1), .val (.int p2), .val (.int p3), .val (.int p4), .val (.int p5), .val (.ref (if (p1 &&& (1 : Int32)) = (0 : Int32) then s_MALE else s_FEMALE)), .val (.ref (if (p3 &&& (1 : Int32)) = (0 : Int32) then s_MALE else s_FEMALE)), .val (.int (if (p5 &&& (1 : Int32)) = (0 : Int32) then p4 else p2)), .val (.ref b19), .unset, .unset, .unset] [(.ref (if (p3 &&& (1 : Int32)) = (0 : Int32) then s_MALE else s_FEMALE)), (.ref b21), (.ref b21)])) _
    refine XS.iload X21.here hx rfl (hb hby at_66) rfl ?_
    show Steps p.tables e below (T21.setTop (mkF m 68 #[.val (.int p1), .val (.int p2), .val (.int p3), .val (.int p4), .val (.int p5), .val (.ref (if (p1 &&& (1 : Int32)) = (0 : Int32) then s_MALE else s_FEMALE)), .val (.ref (if (p3 &&& (1 : Int32)) = (0 : Int32) then s_MALE else s_FEMALE)), .val (.int (if (p5 &&& (1 : Int32)) = (0 : Int32) then p4 else p2)), .val (.ref b19), .unset, .unset, .unset] [(.int (if (p5 &&& (1 : Int32)) = (0 : Int32) then p4 else p2)), (.ref (if (p3 &&& (1 : Int32)) = (0 : Int32) then s_MALE else s_FEMALE)), (.ref b21), (.ref b21)])) _
    refine st22.trans ?_
    show Steps p.tables e below (T22.setTop (mkF m 71 #[.val (.int p1), .val (.int p2), .val (.int p3), .val (.int p4), .val (.int p5), .val (.ref (if (p1 &&& (1 : Int32)) = (0 : Int32) then s_MALE else s_FEMALE)), .val (.ref (if (p3 &&& (1 : Int32)) = (0 : Int32) then s_MALE else s_FEMALE)), .val (.int (if (p5 &&& (1 : Int32)) = (0 : Int32) then p4 else p2)), .val (.ref b19), .unset, .unset, .unset] [(.ref b21)])) _
    refine XS.astore X22.here hx rfl (hb hby at_71) rfl rfl (l' := #[.val (.int p1), .val (.int p2), .val (.int p3), .val (.int p4), .val (.int p5), .val (.ref (if (p1 &&& (1 : Int32)) = (0 : Int32) then s_MALE else s_FEMALE)), .val (.ref (if (p3 &&& (1 : Int32)) = (0 : Int32) then s_MALE else s_FEMALE)), .val (.int (if (p5 &&& (1 : Int32)) = (0 : Int32) then p4 else p2)), .val (.ref b19), .val (.ref b21), .unset, .unset]) rfl ?_
    show Steps p.tables e below (T22.setTop (mkF m 73 #[.val (.int p1), .val (.int p2), .val (.int p3), .val (.int p4), .val (.int p5), .val (.ref (if (p1 &&& (1 : Int32)) = (0 : Int32) then s_MALE else s_FEMALE)), .val (.ref (if (p3 &&& (1 : Int32)) = (0 : Int32) then s_MALE else s_FEMALE)), .val (.int (if (p5 &&& (1 : Int32)) = (0 : Int32) then p4 else p2)), .val (.ref b19), .val (.ref b21), .unset, .unset] [])) _
    refine XS.iload X22.here hx rfl (hb hby at_73) rfl ?_
    show Steps p.tables e below (T22.setTop (mkF m 75 #[.val (.int p1), .val (.int p2), .val (.int p3), .val (.int p4), .val (.int p5), .val (.ref (if (p1 &&& (1 : Int32)) = (0 : Int32) then s_MALE else s_FEMALE)), .val (.ref (if (p3 &&& (1 : Int32)) = (0 : Int32) then s_MALE else s_FEMALE)), .val (.int (if (p5 &&& (1 : Int32)) = (0 : Int32) then p4 else p2)), .val (.ref b19), .val (.ref b21), .unset, .unset] [(.int p5)])) _
    refine XS.iconst X22.here hx rfl (hb hby at_75) ?_
    show Steps p.tables e below (T22.setTop (mkF m 76 #[.val (.int p1), .val (.int p2), .val (.int p3), .val (.int p4), .val (.int p5), .val (.ref (if (p1 &&& (1 : Int32)) = (0 : Int32) then s_MALE else s_FEMALE)), .val (.ref (if (p3 &&& (1 : Int32)) = (0 : Int32) then s_MALE else s_FEMALE)), .val (.int (if (p5 &&& (1 : Int32)) = (0 : Int32) then p4 else p2)), .val (.ref b19), .val (.ref b21), .unset, .unset] [(.int (1 : Int32)), (.int p5)])) _
    refine XS.iushr X22.here hx rfl (hb hby at_76) rfl ?_
    show Steps p.tables e below (T22.setTop (mkF m 77 #[.val (.int p1), .val (.int p2), .val (.int p3), .val (.int p4), .val (.int p5), .val (.ref (if (p1 &&& (1 : Int32)) = (0 : Int32) then s_MALE else s_FEMALE)), .val (.ref (if (p3 &&& (1 : Int32)) = (0 : Int32) then s_MALE else s_FEMALE)), .val (.int (if (p5 &&& (1 : Int32)) = (0 : Int32) then p4 else p2)), .val (.ref b19), .val (.ref b21), .unset, .unset] [(.int ((p5.toUInt32 >>> ((1 : Int32) &&& 31).toUInt32).toInt32))])) _
    refine XS.iconst X22.here hx rfl (hb hby at_77) ?_
    show Steps p.tables e below (T22.setTop (mkF m 78 #[.val (.int p1), .val (.int p2), .val (.int p3), .val (.int p4), .val (.int p5), .val (.ref (if (p1 &&& (1 : Int32)) = (0 : Int32) then s_MALE else s_FEMALE)), .val (.ref (if (p3 &&& (1 : Int32)) = (0 : Int32) then s_MALE else s_FEMALE)), .val (.int (if (p5 &&& (1 : Int32)) = (0 : Int32) then p4 else p2)), .val (.ref b19), .val (.ref b21), .unset, .unset] [(.int (3 : Int32)), (.int ((p5.toUInt32 >>> ((1 : Int32) &&& 31).toUInt32).toInt32))])) _
    refine XS.iand X22.here hx rfl (hb hby at_78) rfl ?_
    show Steps p.tables e below (T22.setTop (mkF m 79 #[.val (.int p1), .val (.int p2), .val (.int p3), .val (.int p4), .val (.int p5), .val (.ref (if (p1 &&& (1 : Int32)) = (0 : Int32) then s_MALE else s_FEMALE)), .val (.ref (if (p3 &&& (1 : Int32)) = (0 : Int32) then s_MALE else s_FEMALE)), .val (.int (if (p5 &&& (1 : Int32)) = (0 : Int32) then p4 else p2)), .val (.ref b19), .val (.ref b21), .unset, .unset] [(.int (((p5.toUInt32 >>> ((1 : Int32) &&& 31).toUInt32).toInt32) &&& (3 : Int32)))])) _
    refine XS.istore X22.here hx rfl (hb hby at_79) rfl (l' := #[.val (.int p1), .val (.int p2), .val (.int p3), .val (.int p4), .val (.int p5), .val (.ref (if (p1 &&& (1 : Int32)) = (0 : Int32) then s_MALE else s_FEMALE)), .val (.ref (if (p3 &&& (1 : Int32)) = (0 : Int32) then s_MALE else s_FEMALE)), .val (.int (if (p5 &&& (1 : Int32)) = (0 : Int32) then p4 else p2)), .val (.ref b19), .val (.ref b21), .val (.int (((p5.toUInt32 >>> ((1 : Int32) &&& 31).toUInt32).toInt32) &&& (3 : Int32))), .unset]) rfl ?_
    show Steps p.tables e below (T22.setTop (mkF m 81 #[.val (.int p1), .val (.int p2), .val (.int p3), .val (.int p4), .val (.int p5), .val (.ref (if (p1 &&& (1 : Int32)) = (0 : Int32) then s_MALE else s_FEMALE)), .val (.ref (if (p3 &&& (1 : Int32)) = (0 : Int32) then s_MALE else s_FEMALE)), .val (.int (if (p5 &&& (1 : Int32)) = (0 : Int32) then p4 else p2)), .val (.ref b19), .val (.ref b21), .val (.int (((p5.toUInt32 >>> ((1 : Int32) &&& 31).toUInt32).toInt32) &&& (3 : Int32))), .unset] [])) _
    refine XS.iload X22.here hx rfl (hb hby at_81) rfl ?_
    show Steps p.tables e below (T22.setTop (mkF m 83 #[.val (.int p1), .val (.int p2), .val (.int p3), .val (.int p4), .val (.int p5), .val (.ref (if (p1 &&& (1 : Int32)) = (0 : Int32) then s_MALE else s_FEMALE)), .val (.ref (if (p3 &&& (1 : Int32)) = (0 : Int32) then s_MALE else s_FEMALE)), .val (.int (if (p5 &&& (1 : Int32)) = (0 : Int32) then p4 else p2)), .val (.ref b19), .val (.ref b21), .val (.int (((p5.toUInt32 >>> ((1 : Int32) &&& 31).toUInt32).toInt32) &&& (3 : Int32))), .unset] [(.int (((p5.toUInt32 >>> ((1 : Int32) &&& 31).toUInt32).toInt32) &&& (3 : Int32)))])) _
    exact k
  by_cases hc23 : (((p5.toUInt32 >>> ((1 : Int32) &&& 31).toUInt32).toInt32) &&& (3 : Int32)) = (0 : Int32)
  · have pr26 : ∀ t, Steps p.tables e below (T22.setTop (mkF m 92 #[.val (.int p1), .val (.int p2), .val (.int p3), .val (.int p4), .val (.int p5), .val (.ref (if (p1 &&& (1 : Int32)) = (0 : Int32) then s_MALE else s_FEMALE)), .val (.ref (if (p3 &&& (1 : Int32)) = (0 : Int32) then s_MALE else s_FEMALE)), .val (.int (if (p5 &&& (1 : Int32)) = (0 : Int32) then p4 else p2)), .val (.ref b19), .val (.ref b21), .val (.int (((p5.toUInt32 >>> ((1 : Int32) &&& 31).toUInt32).toInt32) &&& (3 : Int32))), .unset] [(.int (p3 &&& (1 : Int32))), (.int (p1 &&& (1 : Int32)))])) t → Steps p.tables e below (s₁.setTop (entryFrame m #[(.int p1), (.int p2), (.int p3), (.int p4), (.int p5)] maxLocals)) t := by
      intro t k
      refine pr24 t ?_
      show Steps p.tables e below (T22.setTop (mkF m 83 #[.val (.int p1), .val (.int p2), .val (.int p3), .val (.int p4), .val (.int p5), .val (.ref (if (p1 &&& (1 : Int32)) = (0 : Int32) then s_MALE else s_FEMALE)), .val (.ref (if (p3 &&& (1 : Int32)) = (0 : Int32) then s_MALE else s_FEMALE)), .val (.int (if (p5 &&& (1 : Int32)) = (0 : Int32) then p4 else p2)), .val (.ref b19), .val (.ref b21), .val (.int (((p5.toUInt32 >>> ((1 : Int32) &&& 31).toUInt32).toInt32) &&& (3 : Int32))), .unset] [(.int (((p5.toUInt32 >>> ((1 : Int32) &&& 31).toUInt32).toInt32) &&& (3 : Int32)))])) _
      refine XS.ifNo X22.here hx rfl (hb hby at_83) rfl ((if0 _ _).trans (teq hc23).2) ?_
      show Steps p.tables e below (T22.setTop (mkF m 86 #[.val (.int p1), .val (.int p2), .val (.int p3), .val (.int p4), .val (.int p5), .val (.ref (if (p1 &&& (1 : Int32)) = (0 : Int32) then s_MALE else s_FEMALE)), .val (.ref (if (p3 &&& (1 : Int32)) = (0 : Int32) then s_MALE else s_FEMALE)), .val (.int (if (p5 &&& (1 : Int32)) = (0 : Int32) then p4 else p2)), .val (.ref b19), .val (.ref b21), .val (.int (((p5.toUInt32 >>> ((1 : Int32) &&& 31).toUInt32).toInt32) &&& (3 : Int32))), .unset] [])) _
      refine XS.iloadN X22.here hx rfl (hb hby at_86) rfl ?_
      show Steps p.tables e below (T22.setTop (mkF m 87 #[.val (.int p1), .val (.int p2), .val (.int p3), .val (.int p4), .val (.int p5), .val (.ref (if (p1 &&& (1 : Int32)) = (0 : Int32) then s_MALE else s_FEMALE)), .val (.ref (if (p3 &&& (1 : Int32)) = (0 : Int32) then s_MALE else s_FEMALE)), .val (.int (if (p5 &&& (1 : Int32)) = (0 : Int32) then p4 else p2)), .val (.ref b19), .val (.ref b21), .val (.int (((p5.toUInt32 >>> ((1 : Int32) &&& 31).toUInt32).toInt32) &&& (3 : Int32))), .unset] [(.int p1)])) _
      refine XS.iconst X22.here hx rfl (hb hby at_87) ?_
      show Steps p.tables e below (T22.setTop (mkF m 88 #[.val (.int p1), .val (.int p2), .val (.int p3), .val (.int p4), .val (.int p5), .val (.ref (if (p1 &&& (1 : Int32)) = (0 : Int32) then s_MALE else s_FEMALE)), .val (.ref (if (p3 &&& (1 : Int32)) = (0 : Int32) then s_MALE else s_FEMALE)), .val (.int (if (p5 &&& (1 : Int32)) = (0 : Int32) then p4 else p2)), .val (.ref b19), .val (.ref b21), .val (.int (((p5.toUInt32 >>> ((1 : Int32) &&& 31).toUInt32).toInt32) &&& (3 : Int32))), .unset] [(.int (1 : Int32)), (.int p1)])) _
      refine XS.iand X22.here hx rfl (hb hby at_88) rfl ?_
      show Steps p.tables e below (T22.setTop (mkF m 89 #[.val (.int p1), .val (.int p2), .val (.int p3), .val (.int p4), .val (.int p5), .val (.ref (if (p1 &&& (1 : Int32)) = (0 : Int32) then s_MALE else s_FEMALE)), .val (.ref (if (p3 &&& (1 : Int32)) = (0 : Int32) then s_MALE else s_FEMALE)), .val (.int (if (p5 &&& (1 : Int32)) = (0 : Int32) then p4 else p2)), .val (.ref b19), .val (.ref b21), .val (.int (((p5.toUInt32 >>> ((1 : Int32) &&& 31).toUInt32).toInt32) &&& (3 : Int32))), .unset] [(.int (p1 &&& (1 : Int32)))])) _
      refine XS.iloadN X22.here hx rfl (hb hby at_89) rfl ?_
      show Steps p.tables e below (T22.setTop (mkF m 90 #[.val (.int p1), .val (.int p2), .val (.int p3), .val (.int p4), .val (.int p5), .val (.ref (if (p1 &&& (1 : Int32)) = (0 : Int32) then s_MALE else s_FEMALE)), .val (.ref (if (p3 &&& (1 : Int32)) = (0 : Int32) then s_MALE else s_FEMALE)), .val (.int (if (p5 &&& (1 : Int32)) = (0 : Int32) then p4 else p2)), .val (.ref b19), .val (.ref b21), .val (.int (((p5.toUInt32 >>> ((1 : Int32) &&& 31).toUInt32).toInt32) &&& (3 : Int32))), .unset] [(.int p3), (.int (p1 &&& (1 : Int32)))])) _
      refine XS.iconst X22.here hx rfl (hb hby at_90) ?_
      show Steps p.tables e below (T22.setTop (mkF m 91 #[.val (.int p1), .val (.int p2), .val (.int p3), .val (.int p4), .val (.int p5), .val (.ref (if (p1 &&& (1 : Int32)) = (0 : Int32) then s_MALE else s_FEMALE)), .val (.ref (if (p3 &&& (1 : Int32)) = (0 : Int32) then s_MALE else s_FEMALE)), .val (.int (if (p5 &&& (1 : Int32)) = (0 : Int32) then p4 else p2)), .val (.ref b19), .val (.ref b21), .val (.int (((p5.toUInt32 >>> ((1 : Int32) &&& 31).toUInt32).toInt32) &&& (3 : Int32))), .unset] [(.int (1 : Int32)), (.int p3), (.int (p1 &&& (1 : Int32)))])) _
      refine XS.iand X22.here hx rfl (hb hby at_91) rfl ?_
      show Steps p.tables e below (T22.setTop (mkF m 92 #[.val (.int p1), .val (.int p2), .val (.int p3), .val (.int p4), .val (.int p5), .val (.ref (if (p1 &&& (1 : Int32)) = (0 : Int32) then s_MALE else s_FEMALE)), .val (.ref (if (p3 &&& (1 : Int32)) = (0 : Int32) then s_MALE else s_FEMALE)), .val (.int (if (p5 &&& (1 : Int32)) = (0 : Int32) then p4 else p2)), .val (.ref b19), .val (.ref b21), .val (.int (((p5.toUInt32 >>> ((1 : Int32) &&& 31).toUInt32).toInt32) &&& (3 : Int32))), .unset] [(.int (p3 &&& (1 : Int32))), (.int (p1 &&& (1 : Int32)))])) _
      exact k
    by_cases hc25 : (p1 &&& (1 : Int32)) = (p3 &&& (1 : Int32))
    · have pr27 : ∀ t, Steps p.tables e below (T22.setTop (mkF m 106 #[.val (.int p1), .val (.int p2), .val (.int p3), .val (.int p4), .val (.int p5), .val (.ref (if (p1 &&& (1 : Int32)) = (0 : Int32) then s_MALE else s_FEMALE)), .val (.ref (if (p3 &&& (1 : Int32)) = (0 : Int32) then s_MALE else s_FEMALE)), .val (.int (if (p5 &&& (1 : Int32)) = (0 : Int32) then p4 else p2)), .val (.ref b19), .val (.ref b21), .val (.int (((p5.toUInt32 >>> ((1 : Int32) &&& 31).toUInt32).toInt32) &&& (3 : Int32))), .unset] [(.int (if p2 = (if (p5 &&& (1 : Int32)) = (0 : Int32) then p4 else p2) then (1 : Int32) else (0 : Int32)))])) t → Steps p.tables e below (s₁.setTop (entryFrame m #[(.int p1), (.int p2), (.int p3), (.int p4), (.int p5)] maxLocals)) t := by
        intro t k
        refine pr26 t ?_
        show Steps p.tables e below (T22.setTop (mkF m 92 #[.val (.int p1), .val (.int p2), .val (.int p3), .val (.int p4), .val (.int p5), .val (.ref (if (p1 &&& (1 : Int32)) = (0 : Int32) then s_MALE else s_FEMALE)), .val (.ref (if (p3 &&& (1 : Int32)) = (0 : Int32) then s_MALE else s_FEMALE)), .val (.int (if (p5 &&& (1 : Int32)) = (0 : Int32) then p4 else p2)), .val (.ref b19), .val (.ref b21), .val (.int (((p5.toUInt32 >>> ((1 : Int32) &&& 31).toUInt32).toInt32) &&& (3 : Int32))), .unset] [(.int (p3 &&& (1 : Int32))), (.int (p1 &&& (1 : Int32)))])) _
        refine XS.icmpNo X22.here hx rfl (hb hby at_92) rfl (teq hc25).2 ?_
        show Steps p.tables e below (T22.setTop (mkF m 95 #[.val (.int p1), .val (.int p2), .val (.int p3), .val (.int p4), .val (.int p5), .val (.ref (if (p1 &&& (1 : Int32)) = (0 : Int32) then s_MALE else s_FEMALE)), .val (.ref (if (p3 &&& (1 : Int32)) = (0 : Int32) then s_MALE else s_FEMALE)), .val (.int (if (p5 &&& (1 : Int32)) = (0 : Int32) then p4 else p2)), .val (.ref b19), .val (.ref b21), .val (.int (((p5.toUInt32 >>> ((1 : Int32) &&& 31).toUInt32).toInt32) &&& (3 : Int32))), .unset] [])) _
        refine XS.iloadN X22.here hx rfl (hb hby at_95) rfl ?_
        show Steps p.tables e below (T22.setTop (mkF m 96 #[.val (.int p1), .val (.int p2), .val (.int p3), .val (.int p4), .val (.int p5), .val (.ref (if (p1 &&& (1 : Int32)) = (0 : Int32) then s_MALE else s_FEMALE)), .val (.ref (if (p3 &&& (1 : Int32)) = (0 : Int32) then s_MALE else s_FEMALE)), .val (.int (if (p5 &&& (1 : Int32)) = (0 : Int32) then p4 else p2)), .val (.ref b19), .val (.ref b21), .val (.int (((p5.toUInt32 >>> ((1 : Int32) &&& 31).toUInt32).toInt32) &&& (3 : Int32))), .unset] [(.int p2)])) _
        refine XS.iload X22.here hx rfl (hb hby at_96) rfl ?_
        show Steps p.tables e below (T22.setTop (mkF m 98 #[.val (.int p1), .val (.int p2), .val (.int p3), .val (.int p4), .val (.int p5), .val (.ref (if (p1 &&& (1 : Int32)) = (0 : Int32) then s_MALE else s_FEMALE)), .val (.ref (if (p3 &&& (1 : Int32)) = (0 : Int32) then s_MALE else s_FEMALE)), .val (.int (if (p5 &&& (1 : Int32)) = (0 : Int32) then p4 else p2)), .val (.ref b19), .val (.ref b21), .val (.int (((p5.toUInt32 >>> ((1 : Int32) &&& 31).toUInt32).toInt32) &&& (3 : Int32))), .unset] [(.int (if (p5 &&& (1 : Int32)) = (0 : Int32) then p4 else p2)), (.int p2)])) _
        by_cases hc28 : p2 = (if (p5 &&& (1 : Int32)) = (0 : Int32) then p4 else p2)
        · rw [if_pos hc28] at k
          refine XS.icmpNo X22.here hx rfl (hb hby at_98) rfl (teq hc28).2 ?_
          show Steps p.tables e below (T22.setTop (mkF m 101 #[.val (.int p1), .val (.int p2), .val (.int p3), .val (.int p4), .val (.int p5), .val (.ref (if (p1 &&& (1 : Int32)) = (0 : Int32) then s_MALE else s_FEMALE)), .val (.ref (if (p3 &&& (1 : Int32)) = (0 : Int32) then s_MALE else s_FEMALE)), .val (.int (if (p5 &&& (1 : Int32)) = (0 : Int32) then p4 else p2)), .val (.ref b19), .val (.ref b21), .val (.int (((p5.toUInt32 >>> ((1 : Int32) &&& 31).toUInt32).toInt32) &&& (3 : Int32))), .unset] [])) _
          refine XS.iconst X22.here hx rfl (hb hby at_101) ?_
          show Steps p.tables e below (T22.setTop (mkF m 102 #[.val (.int p1), .val (.int p2), .val (.int p3), .val (.int p4), .val (.int p5), .val (.ref (if (p1 &&& (1 : Int32)) = (0 : Int32) then s_MALE else s_FEMALE)), .val (.ref (if (p3 &&& (1 : Int32)) = (0 : Int32) then s_MALE else s_FEMALE)), .val (.int (if (p5 &&& (1 : Int32)) = (0 : Int32) then p4 else p2)), .val (.ref b19), .val (.ref b21), .val (.int (((p5.toUInt32 >>> ((1 : Int32) &&& 31).toUInt32).toInt32) &&& (3 : Int32))), .unset] [(.int (1 : Int32))])) _
          refine XS.goto X22.here hx rfl (pc0 := 102) (pc' := 106) rfl (hb hby at_102) (by decide) (by decide) ?_
          exact k
        · rw [if_neg hc28] at k
          refine XS.icmpYes X22.here hx rfl (pc0 := 98) (pc' := 105) rfl (hb hby at_98) rfl (feq hc28).2 (by decide) (by decide) ?_
          show Steps p.tables e below (T22.setTop (mkF m 105 #[.val (.int p1), .val (.int p2), .val (.int p3), .val (.int p4), .val (.int p5), .val (.ref (if (p1 &&& (1 : Int32)) = (0 : Int32) then s_MALE else s_FEMALE)), .val (.ref (if (p3 &&& (1 : Int32)) = (0 : Int32) then s_MALE else s_FEMALE)), .val (.int (if (p5 &&& (1 : Int32)) = (0 : Int32) then p4 else p2)), .val (.ref b19), .val (.ref b21), .val (.int (((p5.toUInt32 >>> ((1 : Int32) &&& 31).toUInt32).toInt32) &&& (3 : Int32))), .unset] [])) _
          refine XS.iconst X22.here hx rfl (hb hby at_105) ?_
          exact k
      have f31 := (Exa.keep (Exa.ext E21 A20) K22)
      obtain ⟨cq30, kq30, q30a, q30b, q30c⟩ := isOf hZ rfl f31
      have f32 := (Fld.keep (Fld.ext E21 G20_sex) K22 (ninS (Nat.ne_of_lt (Nat.lt_of_lt_of_le A20.lt (Nat.le_of_eq g21.symm))) nin0))
      have f33 := (Fld.keep (Fld.ext E21 G20_age) K22 (ninS (Nat.ne_of_lt (Nat.lt_of_lt_of_le A20.lt (Nat.le_of_eq g21.symm))) nin0))
      obtain ⟨_, _, ⟨T30, L30, k30, n30⟩, -, X30, ⟨Lc30, hQ30, l30, y30, z30⟩, st30⟩ := X22.virtualBack hx (y := (⟨"com/example/vestbook/vestbook/engine/Life", "equals", "(Ljava/lang/Object;)Z"⟩ : MethodName)) (z := (⟨"com/example/vestbook/vestbook/engine/Life", "equals", "(Ljava/lang/Object;)Z"⟩ : MethodName)) hown (mvT hZ (hw _ (List.mem_of_getElem? (i := 16) rfl))) (mvT hZ (hw _ (List.mem_of_getElem? (i := 17) rfl))) (notFace_of_selects (args := #[]) (mvT hZ (hw _ (List.mem_of_getElem? (i := 19) rfl)))) (mvT hZ (hw _ (List.mem_of_getElem? (i := 19) rfl))) (mvT hZ (hw _ (List.mem_of_getElem? (i := 18) rfl))) (by decide) (backOf (W := 0) (rm3 l Z a0 hw [] b19 b21 (if (p1 &&& (1 : Int32)) = (0 : Int32) then s_MALE else s_FEMALE) (if (p3 &&& (1 : Int32)) = (0 : Int32) then s_MALE else s_FEMALE) p2 (if (p5 &&& (1 : Int32)) = (0 : Int32) then p4 else p2) T22.heap n0 Z22 A22 f32 G22_sex f33 G22_age) hZ (hw _ (List.mem_of_getElem? (i := 20) rfl)) (hw _ (List.mem_of_getElem? (i := 5) rfl)) (by decide) (by decide)) q30a q30c (g := (mkF m 112 #[.val (.int p1), .val (.int p2), .val (.int p3), .val (.int p4), .val (.int p5), .val (.ref (if (p1 &&& (1 : Int32)) = (0 : Int32) then s_MALE else s_FEMALE)), .val (.ref (if (p3 &&& (1 : Int32)) = (0 : Int32) then s_MALE else s_FEMALE)), .val (.int (if (p5 &&& (1 : Int32)) = (0 : Int32) then p4 else p2)), .val (.ref b19), .val (.ref b21), .val (.int (((p5.toUInt32 >>> ((1 : Int32) &&& 31).toUInt32).toInt32) &&& (3 : Int32))), .val (.int (if p2 = (if (p5 &&& (1 : Int32)) = (0 : Int32) then p4 else p2) then (1 : Int32) else (0 : Int32)))] [(.ref b21), (.ref b19)])) rfl (by rw [hml]; rfl) (Steps.refl _) (argsL := [(.ref b21)]) (rest := []) (lenOf pd_0_1 rfl) rfl (by show 2 * 0 + _ ≤ _; exact Nat.le_of_eq rfl) (hb hby at_112) (fun _ _ => ⟨rfl, rfl, (by decide : 2 + 0 ≤ _), (by decide : 4 + 0 ≤ _)⟩)
      dsimp only [Pt.U, Pt.locs, Pt.cells, Pt.slots] at X30 l30 y30 z30 st30 hQ30
      subst l30 y30 z30
      obtain ⟨rfl, N30q, e30⟩ := hQ30
      have N30 := Fr.app N22 N30q
      obtain ⟨cq34, kq34, q34a, q34b, q34c⟩ := isOf hZ e30 A22
      obtain ⟨_, _, ⟨T34, L34, k34, n34⟩, -, X34, ⟨Lc34, hQ34, l34, y34, z34⟩, st34⟩ := X30.virtualBack hx (y := (⟨"com/example/vestbook/vestbook/engine/Life", "equals", "(Ljava/lang/Object;)Z"⟩ : MethodName)) (z := (⟨"com/example/vestbook/vestbook/engine/Life", "equals", "(Ljava/lang/Object;)Z"⟩ : MethodName)) hown (mvT hZ (hw _ (List.mem_of_getElem? (i := 16) rfl))) (mvT hZ (hw _ (List.mem_of_getElem? (i := 17) rfl))) (notFace_of_selects (args := #[]) (mvT hZ (hw _ (List.mem_of_getElem? (i := 19) rfl)))) (mvT hZ (hw _ (List.mem_of_getElem? (i := 19) rfl))) (mvT hZ (hw _ (List.mem_of_getElem? (i := 18) rfl))) (by decide) (backOf (W := 0) (rm3 l Z a0 hw [] b21 b19 (if (p3 &&& (1 : Int32)) = (0 : Int32) then s_MALE else s_FEMALE) (if (p1 &&& (1 : Int32)) = (0 : Int32) then s_MALE else s_FEMALE) (if (p5 &&& (1 : Int32)) = (0 : Int32) then p4 else p2) p2 T22.heap n0 Z22 f31 G22_sex f32 G22_age f33) hZ (hw _ (List.mem_of_getElem? (i := 20) rfl)) (hw _ (List.mem_of_getElem? (i := 5) rfl)) (by decide) (by decide)) q34a q34c (g := (mkF m 124 #[.val (.int p1), .val (.int p2), .val (.int p3), .val (.int p4), .val (.int p5), .val (.ref (if (p1 &&& (1 : Int32)) = (0 : Int32) then s_MALE else s_FEMALE)), .val (.ref (if (p3 &&& (1 : Int32)) = (0 : Int32) then s_MALE else s_FEMALE)), .val (.int (if (p5 &&& (1 : Int32)) = (0 : Int32) then p4 else p2)), .val (.ref b19), .val (.ref b21), .val (.int (((p5.toUInt32 >>> ((1 : Int32) &&& 31).toUInt32).toInt32) &&& (3 : Int32))), .val (.int (if p2 = (if (p5 &&& (1 : Int32)) = (0 : Int32) then p4 else p2) then (1 : Int32) else (0 : Int32)))] [(.ref b19), (.ref b21)])) rfl (by rw [hml]; rfl) (Steps.refl _) (argsL := [(.ref b19)]) (rest := []) (lenOf pd_0_1 rfl) rfl (by show 2 * 0 + _ ≤ _; exact Nat.le_of_eq rfl) (hb hby at_124) (fun _ _ => ⟨rfl, e30, (by decide : 2 + 0 ≤ _), (by decide : 4 + 0 ≤ _)⟩)
      dsimp only [Pt.U, Pt.locs, Pt.cells, Pt.slots] at X34 l34 y34 z34 st34 hQ34
      subst l34 y34 z34
      obtain ⟨rfl, N34q, e34⟩ := hQ34
      have N34 := Fr.app N30 N34q
      obtain ⟨fs, hr, hrun, hended, hW, hsame⟩ := X34.leave (v := some (.int (1 : Int32))) (fun h => by rw [Bd.returns] at h; cases h)
      refine ⟨_, _, pr27 _ ?_, hrun, hended, _, _, rfl, ?_, ⟨_, rfl⟩, hW, hsame.mono (by decide) (by decide)⟩
      · show Steps p.tables e below (T22.setTop (mkF m 106 #[.val (.int p1), .val (.int p2), .val (.int p3), .val (.int p4), .val (.int p5), .val (.ref (if (p1 &&& (1 : Int32)) = (0 : Int32) then s_MALE else s_FEMALE)), .val (.ref (if (p3 &&& (1 : Int32)) = (0 : Int32) then s_MALE else s_FEMALE)), .val (.int (if (p5 &&& (1 : Int32)) = (0 : Int32) then p4 else p2)), .val (.ref b19), .val (.ref b21), .val (.int (((p5.toUInt32 >>> ((1 : Int32) &&& 31).toUInt32).toInt32) &&& (3 : Int32))), .unset] [(.int (if p2 = (if (p5 &&& (1 : Int32)) = (0 : Int32) then p4 else p2) then (1 : Int32) else (0 : Int32)))])) _
        refine XS.istore X22.here hx rfl (hb hby at_106) rfl (l' := #[.val (.int p1), .val (.int p2), .val (.int p3), .val (.int p4), .val (.int p5), .val (.ref (if (p1 &&& (1 : Int32)) = (0 : Int32) then s_MALE else s_FEMALE)), .val (.ref (if (p3 &&& (1 : Int32)) = (0 : Int32) then s_MALE else s_FEMALE)), .val (.int (if (p5 &&& (1 : Int32)) = (0 : Int32) then p4 else p2)), .val (.ref b19), .val (.ref b21), .val (.int (((p5.toUInt32 >>> ((1 : Int32) &&& 31).toUInt32).toInt32) &&& (3 : Int32))), .val (.int (if p2 = (if (p5 &&& (1 : Int32)) = (0 : Int32) then p4 else p2) then (1 : Int32) else (0 : Int32)))]) rfl ?_
        show Steps p.tables e below (T22.setTop (mkF m 108 #[.val (.int p1), .val (.int p2), .val (.int p3), .val (.int p4), .val (.int p5), .val (.ref (if (p1 &&& (1 : Int32)) = (0 : Int32) then s_MALE else s_FEMALE)), .val (.ref (if (p3 &&& (1 : Int32)) = (0 : Int32) then s_MALE else s_FEMALE)), .val (.int (if (p5 &&& (1 : Int32)) = (0 : Int32) then p4 else p2)), .val (.ref b19), .val (.ref b21), .val (.int (((p5.toUInt32 >>> ((1 : Int32) &&& 31).toUInt32).toInt32) &&& (3 : Int32))), .val (.int (if p2 = (if (p5 &&& (1 : Int32)) = (0 : Int32) then p4 else p2) then (1 : Int32) else (0 : Int32)))] [])) _
        refine XS.aload X22.here hx rfl (hb hby at_108) rfl rfl ?_
        show Steps p.tables e below (T22.setTop (mkF m 110 #[.val (.int p1), .val (.int p2), .val (.int p3), .val (.int p4), .val (.int p5), .val (.ref (if (p1 &&& (1 : Int32)) = (0 : Int32) then s_MALE else s_FEMALE)), .val (.ref (if (p3 &&& (1 : Int32)) = (0 : Int32) then s_MALE else s_FEMALE)), .val (.int (if (p5 &&& (1 : Int32)) = (0 : Int32) then p4 else p2)), .val (.ref b19), .val (.ref b21), .val (.int (((p5.toUInt32 >>> ((1 : Int32) &&& 31).toUInt32).toInt32) &&& (3 : Int32))), .val (.int (if p2 = (if (p5 &&& (1 : Int32)) = (0 : Int32) then p4 else p2) then (1 : Int32) else (0 : Int32)))] [(.ref b19)])) _
        refine XS.aload X22.here hx rfl (hb hby at_110) rfl rfl ?_
        show Steps p.tables e below (T22.setTop (mkF m 112 #[.val (.int p1), .val (.int p2), .val (.int p3), .val (.int p4), .val (.int p5), .val (.ref (if (p1 &&& (1 : Int32)) = (0 : Int32) then s_MALE else s_FEMALE)), .val (.ref (if (p3 &&& (1 : Int32)) = (0 : Int32) then s_MALE else s_FEMALE)), .val (.int (if (p5 &&& (1 : Int32)) = (0 : Int32) then p4 else p2)), .val (.ref b19), .val (.ref b21), .val (.int (((p5.toUInt32 >>> ((1 : Int32) &&& 31).toUInt32).toInt32) &&& (3 : Int32))), .val (.int (if p2 = (if (p5 &&& (1 : Int32)) = (0 : Int32) then p4 else p2) then (1 : Int32) else (0 : Int32)))] [(.ref b21), (.ref b19)])) _
        refine st30.trans ?_
        show Steps p.tables e below (T30.setTop (mkF m 115 #[.val (.int p1), .val (.int p2), .val (.int p3), .val (.int p4), .val (.int p5), .val (.ref (if (p1 &&& (1 : Int32)) = (0 : Int32) then s_MALE else s_FEMALE)), .val (.ref (if (p3 &&& (1 : Int32)) = (0 : Int32) then s_MALE else s_FEMALE)), .val (.int (if (p5 &&& (1 : Int32)) = (0 : Int32) then p4 else p2)), .val (.ref b19), .val (.ref b21), .val (.int (((p5.toUInt32 >>> ((1 : Int32) &&& 31).toUInt32).toInt32) &&& (3 : Int32))), .val (.int (if p2 = (if (p5 &&& (1 : Int32)) = (0 : Int32) then p4 else p2) then (1 : Int32) else (0 : Int32)))] [(.int (own_f3 (if (p1 &&& (1 : Int32)) = (0 : Int32) then s_MALE else s_FEMALE) (if (p3 &&& (1 : Int32)) = (0 : Int32) then s_MALE else s_FEMALE) p2 (if (p5 &&& (1 : Int32)) = (0 : Int32) then p4 else p2)))])) _
        refine XS.iload X30.here hx rfl (hb hby at_115) rfl ?_
        show Steps p.tables e below (T30.setTop (mkF m 117 #[.val (.int p1), .val (.int p2), .val (.int p3), .val (.int p4), .val (.int p5), .val (.ref (if (p1 &&& (1 : Int32)) = (0 : Int32) then s_MALE else s_FEMALE)), .val (.ref (if (p3 &&& (1 : Int32)) = (0 : Int32) then s_MALE else s_FEMALE)), .val (.int (if (p5 &&& (1 : Int32)) = (0 : Int32) then p4 else p2)), .val (.ref b19), .val (.ref b21), .val (.int (((p5.toUInt32 >>> ((1 : Int32) &&& 31).toUInt32).toInt32) &&& (3 : Int32))), .val (.int (if p2 = (if (p5 &&& (1 : Int32)) = (0 : Int32) then p4 else p2) then (1 : Int32) else (0 : Int32)))] [(.int (if p2 = (if (p5 &&& (1 : Int32)) = (0 : Int32) then p4 else p2) then (1 : Int32) else (0 : Int32))), (.int (own_f3 (if (p1 &&& (1 : Int32)) = (0 : Int32) then s_MALE else s_FEMALE) (if (p3 &&& (1 : Int32)) = (0 : Int32) then s_MALE else s_FEMALE) p2 (if (p5 &&& (1 : Int32)) = (0 : Int32) then p4 else p2)))])) _
        refine XS.icmpNo X30.here hx rfl (hb hby at_117) rfl (teq (hq117_1 hc23 hc25)).2 ?_
        show Steps p.tables e below (T30.setTop (mkF m 120 #[.val (.int p1), .val (.int p2), .val (.int p3), .val (.int p4), .val (.int p5), .val (.ref (if (p1 &&& (1 : Int32)) = (0 : Int32) then s_MALE else s_FEMALE)), .val (.ref (if (p3 &&& (1 : Int32)) = (0 : Int32) then s_MALE else s_FEMALE)), .val (.int (if (p5 &&& (1 : Int32)) = (0 : Int32) then p4 else p2)), .val (.ref b19), .val (.ref b21), .val (.int (((p5.toUInt32 >>> ((1 : Int32) &&& 31).toUInt32).toInt32) &&& (3 : Int32))), .val (.int (if p2 = (if (p5 &&& (1 : Int32)) = (0 : Int32) then p4 else p2) then (1 : Int32) else (0 : Int32)))] [])) _
        refine XS.aload X30.here hx rfl (hb hby at_120) rfl rfl ?_
        show Steps p.tables e below (T30.setTop (mkF m 122 #[.val (.int p1), .val (.int p2), .val (.int p3), .val (.int p4), .val (.int p5), .val (.ref (if (p1 &&& (1 : Int32)) = (0 : Int32) then s_MALE else s_FEMALE)), .val (.ref (if (p3 &&& (1 : Int32)) = (0 : Int32) then s_MALE else s_FEMALE)), .val (.int (if (p5 &&& (1 : Int32)) = (0 : Int32) then p4 else p2)), .val (.ref b19), .val (.ref b21), .val (.int (((p5.toUInt32 >>> ((1 : Int32) &&& 31).toUInt32).toInt32) &&& (3 : Int32))), .val (.int (if p2 = (if (p5 &&& (1 : Int32)) = (0 : Int32) then p4 else p2) then (1 : Int32) else (0 : Int32)))] [(.ref b21)])) _
        refine XS.aload X30.here hx rfl (hb hby at_122) rfl rfl ?_
        show Steps p.tables e below (T30.setTop (mkF m 124 #[.val (.int p1), .val (.int p2), .val (.int p3), .val (.int p4), .val (.int p5), .val (.ref (if (p1 &&& (1 : Int32)) = (0 : Int32) then s_MALE else s_FEMALE)), .val (.ref (if (p3 &&& (1 : Int32)) = (0 : Int32) then s_MALE else s_FEMALE)), .val (.int (if (p5 &&& (1 : Int32)) = (0 : Int32) then p4 else p2)), .val (.ref b19), .val (.ref b21), .val (.int (((p5.toUInt32 >>> ((1 : Int32) &&& 31).toUInt32).toInt32) &&& (3 : Int32))), .val (.int (if p2 = (if (p5 &&& (1 : Int32)) = (0 : Int32) then p4 else p2) then (1 : Int32) else (0 : Int32)))] [(.ref b19), (.ref b21)])) _
        refine st34.trans ?_
        show Steps p.tables e below (T34.setTop (mkF m 127 #[.val (.int p1), .val (.int p2), .val (.int p3), .val (.int p4), .val (.int p5), .val (.ref (if (p1 &&& (1 : Int32)) = (0 : Int32) then s_MALE else s_FEMALE)), .val (.ref (if (p3 &&& (1 : Int32)) = (0 : Int32) then s_MALE else s_FEMALE)), .val (.int (if (p5 &&& (1 : Int32)) = (0 : Int32) then p4 else p2)), .val (.ref b19), .val (.ref b21), .val (.int (((p5.toUInt32 >>> ((1 : Int32) &&& 31).toUInt32).toInt32) &&& (3 : Int32))), .val (.int (if p2 = (if (p5 &&& (1 : Int32)) = (0 : Int32) then p4 else p2) then (1 : Int32) else (0 : Int32)))] [(.int (own_f3 (if (p3 &&& (1 : Int32)) = (0 : Int32) then s_MALE else s_FEMALE) (if (p1 &&& (1 : Int32)) = (0 : Int32) then s_MALE else s_FEMALE) (if (p5 &&& (1 : Int32)) = (0 : Int32) then p4 else p2) p2))])) _
        refine XS.iload X34.here hx rfl (hb hby at_127) rfl ?_
        show Steps p.tables e below (T34.setTop (mkF m 129 #[.val (.int p1), .val (.int p2), .val (.int p3), .val (.int p4), .val (.int p5), .val (.ref (if (p1 &&& (1 : Int32)) = (0 : Int32) then s_MALE else s_FEMALE)), .val (.ref (if (p3 &&& (1 : Int32)) = (0 : Int32) then s_MALE else s_FEMALE)), .val (.int (if (p5 &&& (1 : Int32)) = (0 : Int32) then p4 else p2)), .val (.ref b19), .val (.ref b21), .val (.int (((p5.toUInt32 >>> ((1 : Int32) &&& 31).toUInt32).toInt32) &&& (3 : Int32))), .val (.int (if p2 = (if (p5 &&& (1 : Int32)) = (0 : Int32) then p4 else p2) then (1 : Int32) else (0 : Int32)))] [(.int (if p2 = (if (p5 &&& (1 : Int32)) = (0 : Int32) then p4 else p2) then (1 : Int32) else (0 : Int32))), (.int (own_f3 (if (p3 &&& (1 : Int32)) = (0 : Int32) then s_MALE else s_FEMALE) (if (p1 &&& (1 : Int32)) = (0 : Int32) then s_MALE else s_FEMALE) (if (p5 &&& (1 : Int32)) = (0 : Int32) then p4 else p2) p2))])) _
        refine XS.icmpNo X34.here hx rfl (hb hby at_129) rfl (teq (hq129_2 hc23 hc25)).2 ?_
        show Steps p.tables e below (T34.setTop (mkF m 132 #[.val (.int p1), .val (.int p2), .val (.int p3), .val (.int p4), .val (.int p5), .val (.ref (if (p1 &&& (1 : Int32)) = (0 : Int32) then s_MALE else s_FEMALE)), .val (.ref (if (p3 &&& (1 : Int32)) = (0 : Int32) then s_MALE else s_FEMALE)), .val (.int (if (p5 &&& (1 : Int32)) = (0 : Int32) then p4 else p2)), .val (.ref b19), .val (.ref b21), .val (.int (((p5.toUInt32 >>> ((1 : Int32) &&& 31).toUInt32).toInt32) &&& (3 : Int32))), .val (.int (if p2 = (if (p5 &&& (1 : Int32)) = (0 : Int32) then p4 else p2) then (1 : Int32) else (0 : Int32)))] [])) _
        refine XS.iconst X34.here hx rfl (hb hby at_132) ?_
        show Steps p.tables e below (T34.setTop (mkF m 133 #[.val (.int p1), .val (.int p2), .val (.int p3), .val (.int p4), .val (.int p5), .val (.ref (if (p1 &&& (1 : Int32)) = (0 : Int32) then s_MALE else s_FEMALE)), .val (.ref (if (p3 &&& (1 : Int32)) = (0 : Int32) then s_MALE else s_FEMALE)), .val (.int (if (p5 &&& (1 : Int32)) = (0 : Int32) then p4 else p2)), .val (.ref b19), .val (.ref b21), .val (.int (((p5.toUInt32 >>> ((1 : Int32) &&& 31).toUInt32).toInt32) &&& (3 : Int32))), .val (.int (if p2 = (if (p5 &&& (1 : Int32)) = (0 : Int32) then p4 else p2) then (1 : Int32) else (0 : Int32)))] [(.int (1 : Int32))])) _
        refine XS.goto X34.here hx rfl (pc0 := 133) (pc' := 137) rfl (hb hby at_133) (by decide) (by decide) ?_
        show Steps p.tables e below (T34.setTop (mkF m 137 #[.val (.int p1), .val (.int p2), .val (.int p3), .val (.int p4), .val (.int p5), .val (.ref (if (p1 &&& (1 : Int32)) = (0 : Int32) then s_MALE else s_FEMALE)), .val (.ref (if (p3 &&& (1 : Int32)) = (0 : Int32) then s_MALE else s_FEMALE)), .val (.int (if (p5 &&& (1 : Int32)) = (0 : Int32) then p4 else p2)), .val (.ref b19), .val (.ref b21), .val (.int (((p5.toUInt32 >>> ((1 : Int32) &&& 31).toUInt32).toInt32) &&& (3 : Int32))), .val (.int (if p2 = (if (p5 &&& (1 : Int32)) = (0 : Int32) then p4 else p2) then (1 : Int32) else (0 : Int32)))] [(.int (1 : Int32))])) _
        exact retN X34 hx (t := .boolean) Bd.returns (by simp) (hb hby at_137) hr
      · show Q0 Z p1 p2 p3 p4 p5 cl_cache s_MALE s_FEMALE wel s_cache h0 n0 _ T34.heap _
        rw [e34]
        exact ⟨rfl, N34⟩
    · have f36 := (Exa.keep (Exa.ext E21 A20) K22)
      obtain ⟨cq35, kq35, q35a, q35b, q35c⟩ := isOf hZ rfl f36
      have f37 := (Fld.keep (Fld.ext E21 G20_sex) K22 (ninS (Nat.ne_of_lt (Nat.lt_of_lt_of_le A20.lt (Nat.le_of_eq g21.symm))) nin0))
      have f38 := (Fld.keep (Fld.ext E21 G20_age) K22 (ninS (Nat.ne_of_lt (Nat.lt_of_lt_of_le A20.lt (Nat.le_of_eq g21.symm))) nin0))
      obtain ⟨_, _, ⟨T35, L35, k35, n35⟩, -, X35, ⟨Lc35, hQ35, l35, y35, z35⟩, st35⟩ := X22.virtualBack hx (y := (⟨"com/example/vestbook/vestbook/engine/Life", "equals", "(Ljava/lang/Object;)Z"⟩ : MethodName)) (z := (⟨"com/example/vestbook/vestbook/engine/Life", "equals", "(Ljava/lang/Object;)Z"⟩ : MethodName)) hown (mvT hZ (hw _ (List.mem_of_getElem? (i := 16) rfl))) (mvT hZ (hw _ (List.mem_of_getElem? (i := 17) rfl))) (notFace_of_selects (args := #[]) (mvT hZ (hw _ (List.mem_of_getElem? (i := 19) rfl)))) (mvT hZ (hw _ (List.mem_of_getElem? (i := 19) rfl))) (mvT hZ (hw _ (List.mem_of_getElem? (i := 18) rfl))) (by decide) (backOf (W := 0) (rm3 l Z a0 hw [] b19 b21 (if (p1 &&& (1 : Int32)) = (0 : Int32) then s_MALE else s_FEMALE) (if (p3 &&& (1 : Int32)) = (0 : Int32) then s_MALE else s_FEMALE) p2 (if (p5 &&& (1 : Int32)) = (0 : Int32) then p4 else p2) T22.heap n0 Z22 A22 f37 G22_sex f38 G22_age) hZ (hw _ (List.mem_of_getElem? (i := 20) rfl)) (hw _ (List.mem_of_getElem? (i := 5) rfl)) (by decide) (by decide)) q35a q35c (g := (mkF m 112 #[.val (.int p1), .val (.int p2), .val (.int p3), .val (.int p4), .val (.int p5), .val (.ref (if (p1 &&& (1 : Int32)) = (0 : Int32) then s_MALE else s_FEMALE)), .val (.ref (if (p3 &&& (1 : Int32)) = (0 : Int32) then s_MALE else s_FEMALE)), .val (.int (if (p5 &&& (1 : Int32)) = (0 : Int32) then p4 else p2)), .val (.ref b19), .val (.ref b21), .val (.int (((p5.toUInt32 >>> ((1 : Int32) &&& 31).toUInt32).toInt32) &&& (3 : Int32))), .val (.int (0 : Int32))] [(.ref b21), (.ref b19)])) rfl (by rw [hml]; rfl) (Steps.refl _) (argsL := [(.ref b21)]) (rest := []) (lenOf pd_0_1 rfl) rfl (by show 2 * 0 + _ ≤ _; exact Nat.le_of_eq rfl) (hb hby at_112) (fun _ _ => ⟨rfl, rfl, (by decide : 2 + 0 ≤ _), (by decide : 4 + 0 ≤ _)⟩)
      dsimp only [Pt.U, Pt.locs, Pt.cells, Pt.slots] at X35 l35 y35 z35 st35 hQ35
      subst l35 y35 z35
      obtain ⟨rfl, N35q, e35⟩ := hQ35
      have N35 := Fr.app N22 N35q
      obtain ⟨cq39, kq39, q39a, q39b, q39c⟩ := isOf hZ e35 A22
      obtain ⟨_, _, ⟨T39, L39, k39, n39⟩, -, X39, ⟨Lc39, hQ39, l39, y39, z39⟩, st39⟩ := X35.virtualBack hx (y := (⟨"com/example/vestbook/vestbook/engine/Life", "equals", "(Ljava/lang/Object;)Z"⟩ : MethodName)) (z := (⟨"com/example/vestbook/vestbook/engine/Life", "equals", "(Ljava/lang/Object;)Z"⟩ : MethodName)) hown (mvT hZ (hw _ (List.mem_of_getElem? (i := 16) rfl))) (mvT hZ (hw _ (List.mem_of_getElem? (i := 17) rfl))) (notFace_of_selects (args := #[]) (mvT hZ (hw _ (List.mem_of_getElem? (i := 19) rfl)))) (mvT hZ (hw _ (List.mem_of_getElem? (i := 19) rfl))) (mvT hZ (hw _ (List.mem_of_getElem? (i := 18) rfl))) (by decide) (backOf (W := 0) (rm3 l Z a0 hw [] b21 b19 (if (p3 &&& (1 : Int32)) = (0 : Int32) then s_MALE else s_FEMALE) (if (p1 &&& (1 : Int32)) = (0 : Int32) then s_MALE else s_FEMALE) (if (p5 &&& (1 : Int32)) = (0 : Int32) then p4 else p2) p2 T22.heap n0 Z22 f36 G22_sex f37 G22_age f38) hZ (hw _ (List.mem_of_getElem? (i := 20) rfl)) (hw _ (List.mem_of_getElem? (i := 5) rfl)) (by decide) (by decide)) q39a q39c (g := (mkF m 124 #[.val (.int p1), .val (.int p2), .val (.int p3), .val (.int p4), .val (.int p5), .val (.ref (if (p1 &&& (1 : Int32)) = (0 : Int32) then s_MALE else s_FEMALE)), .val (.ref (if (p3 &&& (1 : Int32)) = (0 : Int32) then s_MALE else s_FEMALE)), .val (.int (if (p5 &&& (1 : Int32)) = (0 : Int32) then p4 else p2)), .val (.ref b19), .val (.ref b21), .val (.int (((p5.toUInt32 >>> ((1 : Int32) &&& 31).toUInt32).toInt32) &&& (3 : Int32))), .val (.int (0 : Int32))] [(.ref b19), (.ref b21)])) rfl (by rw [hml]; rfl) (Steps.refl _) (argsL := [(.ref b19)]) (rest := []) (lenOf pd_0_1 rfl) rfl (by show 2 * 0 + _ ≤ _; exact Nat.le_of_eq rfl) (hb hby at_124) (fun _ _ => ⟨rfl, e35, (by decide : 2 + 0 ≤ _), (by decide : 4 + 0 ≤ _)⟩)
      dsimp only [Pt.U, Pt.locs, Pt.cells, Pt.slots] at X39 l39 y39 z39 st39 hQ39
      subst l39 y39 z39
      obtain ⟨rfl, N39q, e39⟩ := hQ39
      have N39 := Fr.app N35 N39q
      obtain ⟨fs, hr, hrun, hended, hW, hsame⟩ := X39.leave (v := some (.int (1 : Int32))) (fun h => by rw [Bd.returns] at h; cases h)
      refine ⟨_, _, pr26 _ ?_, hrun, hended, _, _, rfl, ?_, ⟨_, rfl⟩, hW, hsame.mono (by decide) (by decide)⟩
      · show Steps p.tables e below (T22.setTop (mkF m 92 #[.val (.int p1), .val (.int p2), .val (.int p3), .val (.int p4), .val (.int p5), .val (.ref (if (p1 &&& (1 : Int32)) = (0 : Int32) then s_MALE else s_FEMALE)), .val (.ref (if (p3 &&& (1 : Int32)) = (0 : Int32) then s_MALE else s_FEMALE)), .val (.int (if (p5 &&& (1 : Int32)) = (0 : Int32) then p4 else p2)), .val (.ref b19), .val (.ref b21), .val (.int (((p5.toUInt32 >>> ((1 : Int32) &&& 31).toUInt32).toInt32) &&& (3 : Int32))), .unset] [(.int (p3 &&& (1 : Int32))), (.int (p1 &&& (1 : Int32)))])) _
        refine XS.icmpYes X22.here hx rfl (pc0 := 92) (pc' := 105) rfl (hb hby at_92) rfl (feq hc25).2 (by decide) (by decide) ?_
        show Steps p.tables e below (T22.setTop (mkF m 105 #[.val (.int p1), .val (.int p2), .val (.int p3), .val (.int p4), .val (.int p5), .val (.ref (if (p1 &&& (1 : Int32)) = (0 : Int32) then s_MALE else s_FEMALE)), .val (.ref (if (p3 &&& (1 : Int32)) = (0 : Int32) then s_MALE else s_FEMALE)), .val (.int (if (p5 &&& (1 : Int32)) = (0 : Int32) then p4 else p2)), .val (.ref b19), .val (.ref b21), .val (.int (((p5.toUInt32 >>> ((1 : Int32) &&& 31).toUInt32).toInt32) &&& (3 : Int32))), .unset] [])) _
        refine XS.iconst X22.here hx rfl (hb hby at_105) ?_
        show Steps p.tables e below (T22.setTop (mkF m 106 #[.val (.int p1), .val (.int p2), .val (.int p3), .val (.int p4), .val (.int p5), .val (.ref (if (p1 &&& (1 : Int32)) = (0 : Int32) then s_MALE else s_FEMALE)), .val (.ref (if (p3 &&& (1 : Int32)) = (0 : Int32) then s_MALE else s_FEMALE)), .val (.int (if (p5 &&& (1 : Int32)) = (0 : Int32) then p4 else p2)), .val (.ref b19), .val (.ref b21), .val (.int (((p5.toUInt32 >>> ((1 : Int32) &&& 31).toUInt32).toInt32) &&& (3 : Int32))), .unset] [(.int (0 : Int32))])) _
        refine XS.istore X22.here hx rfl (hb hby at_106) rfl (l' := #[.val (.int p1), .val (.int p2), .val (.int p3), .val (.int p4), .val (.int p5), .val (.ref (if (p1 &&& (1 : Int32)) = (0 : Int32) then s_MALE else s_FEMALE)), .val (.ref (if (p3 &&& (1 : Int32)) = (0 : Int32) then s_MALE else s_FEMALE)), .val (.int (if (p5 &&& (1 : Int32)) = (0 : Int32) then p4 else p2)), .val (.ref b19), .val (.ref b21), .val (.int (((p5.toUInt32 >>> ((1 : Int32) &&& 31).toUInt32).toInt32) &&& (3 : Int32))), .val (.int (0 : Int32))]) rfl ?_
        show Steps p.tables e below (T22.setTop (mkF m 108 #[.val (.int p1), .val (.int p2), .val (.int p3), .val (.int p4), .val (.int p5), .val (.ref (if (p1 &&& (1 : Int32)) = (0 : Int32) then s_MALE else s_FEMALE)), .val (.ref (if (p3 &&& (1 : Int32)) = (0 : Int32) then s_MALE else s_FEMALE)), .val (.int (if (p5 &&& (1 : Int32)) = (0 : Int32) then p4 else p2)), .val (.ref b19), .val (.ref b21), .val (.int (((p5.toUInt32 >>> ((1 : Int32) &&& 31).toUInt32).toInt32) &&& (3 : Int32))), .val (.int (0 : Int32))] [])) _
        refine XS.aload X22.here hx rfl (hb hby at_108) rfl rfl ?_
        show Steps p.tables e below (T22.setTop (mkF m 110 #[.val (.int p1), .val (.int p2), .val (.int p3), .val (.int p4), .val (.int p5), .val (.ref (if (p1 &&& (1 : Int32)) = (0 : Int32) then s_MALE else s_FEMALE)), .val (.ref (if (p3 &&& (1 : Int32)) = (0 : Int32) then s_MALE else s_FEMALE)), .val (.int (if (p5 &&& (1 : Int32)) = (0 : Int32) then p4 else p2)), .val (.ref b19), .val (.ref b21), .val (.int (((p5.toUInt32 >>> ((1 : Int32) &&& 31).toUInt32).toInt32) &&& (3 : Int32))), .val (.int (0 : Int32))] [(.ref b19)])) _
        refine XS.aload X22.here hx rfl (hb hby at_110) rfl rfl ?_
        show Steps p.tables e below (T22.setTop (mkF m 112 #[.val (.int p1), .val (.int p2), .val (.int p3), .val (.int p4), .val (.int p5), .val (.ref (if (p1 &&& (1 : Int32)) = (0 : Int32) then s_MALE else s_FEMALE)), .val (.ref (if (p3 &&& (1 : Int32)) = (0 : Int32) then s_MALE else s_FEMALE)), .val (.int (if (p5 &&& (1 : Int32)) = (0 : Int32) then p4 else p2)), .val (.ref b19), .val (.ref b21), .val (.int (((p5.toUInt32 >>> ((1 : Int32) &&& 31).toUInt32).toInt32) &&& (3 : Int32))), .val (.int (0 : Int32))] [(.ref b21), (.ref b19)])) _
        refine st35.trans ?_
        show Steps p.tables e below (T35.setTop (mkF m 115 #[.val (.int p1), .val (.int p2), .val (.int p3), .val (.int p4), .val (.int p5), .val (.ref (if (p1 &&& (1 : Int32)) = (0 : Int32) then s_MALE else s_FEMALE)), .val (.ref (if (p3 &&& (1 : Int32)) = (0 : Int32) then s_MALE else s_FEMALE)), .val (.int (if (p5 &&& (1 : Int32)) = (0 : Int32) then p4 else p2)), .val (.ref b19), .val (.ref b21), .val (.int (((p5.toUInt32 >>> ((1 : Int32) &&& 31).toUInt32).toInt32) &&& (3 : Int32))), .val (.int (0 : Int32))] [(.int (own_f3 (if (p1 &&& (1 : Int32)) = (0 : Int32) then s_MALE else s_FEMALE) (if (p3 &&& (1 : Int32)) = (0 : Int32) then s_MALE else s_FEMALE) p2 (if (p5 &&& (1 : Int32)) = (0 : Int32) then p4 else p2)))])) _
        refine XS.iload X35.here hx rfl (hb hby at_115) rfl ?_
        show Steps p.tables e below (T35.setTop (mkF m 117 #[.val (.int p1), .val (.int p2), .val (.int p3), .val (.int p4), .val (.int p5), .val (.ref (if (p1 &&& (1 : Int32)) = (0 : Int32) then s_MALE else s_FEMALE)), .val (.ref (if (p3 &&& (1 : Int32)) = (0 : Int32) then s_MALE else s_FEMALE)), .val (.int (if (p5 &&& (1 : Int32)) = (0 : Int32) then p4 else p2)), .val (.ref b19), .val (.ref b21), .val (.int (((p5.toUInt32 >>> ((1 : Int32) &&& 31).toUInt32).toInt32) &&& (3 : Int32))), .val (.int (0 : Int32))] [(.int (0 : Int32)), (.int (own_f3 (if (p1 &&& (1 : Int32)) = (0 : Int32) then s_MALE else s_FEMALE) (if (p3 &&& (1 : Int32)) = (0 : Int32) then s_MALE else s_FEMALE) p2 (if (p5 &&& (1 : Int32)) = (0 : Int32) then p4 else p2)))])) _
        refine XS.icmpNo X35.here hx rfl (hb hby at_117) rfl (teq (hq117_3 hc23 hc25)).2 ?_
        show Steps p.tables e below (T35.setTop (mkF m 120 #[.val (.int p1), .val (.int p2), .val (.int p3), .val (.int p4), .val (.int p5), .val (.ref (if (p1 &&& (1 : Int32)) = (0 : Int32) then s_MALE else s_FEMALE)), .val (.ref (if (p3 &&& (1 : Int32)) = (0 : Int32) then s_MALE else s_FEMALE)), .val (.int (if (p5 &&& (1 : Int32)) = (0 : Int32) then p4 else p2)), .val (.ref b19), .val (.ref b21), .val (.int (((p5.toUInt32 >>> ((1 : Int32) &&& 31).toUInt32).toInt32) &&& (3 : Int32))), .val (.int (0 : Int32))] [])) _
        refine XS.aload X35.here hx rfl (hb hby at_120) rfl rfl ?_
        show Steps p.tables e below (T35.setTop (mkF m 122 #[.val (.int p1), .val (.int p2), .val (.int p3), .val (.int p4), .val (.int p5), .val (.ref (if (p1 &&& (1 : Int32)) = (0 : Int32) then s_MALE else s_FEMALE)), .val (.ref (if (p3 &&& (1 : Int32)) = (0 : Int32) then s_MALE else s_FEMALE)), .val (.int (if (p5 &&& (1 : Int32)) = (0 : Int32) then p4 else p2)), .val (.ref b19), .val (.ref b21), .val (.int (((p5.toUInt32 >>> ((1 : Int32) &&& 31).toUInt32).toInt32) &&& (3 : Int32))), .val (.int (0 : Int32))] [(.ref b21)])) _
        refine XS.aload X35.here hx rfl (hb hby at_122) rfl rfl ?_
        show Steps p.tables e below (T35.setTop (mkF m 124 #[.val (.int p1), .val (.int p2), .val (.int p3), .val (.int p4), .val (.int p5), .val (.ref (if (p1 &&& (1 : Int32)) = (0 : Int32) then s_MALE else s_FEMALE)), .val (.ref (if (p3 &&& (1 : Int32)) = (0 : Int32) then s_MALE else s_FEMALE)), .val (.int (if (p5 &&& (1 : Int32)) = (0 : Int32) then p4 else p2)), .val (.ref b19), .val (.ref b21), .val (.int (((p5.toUInt32 >>> ((1 : Int32) &&& 31).toUInt32).toInt32) &&& (3 : Int32))), .val (.int (0 : Int32))] [(.ref b19), (.ref b21)])) _
        refine st39.trans ?_
        show Steps p.tables e below (T39.setTop (mkF m 127 #[.val (.int p1), .val (.int p2), .val (.int p3), .val (.int p4), .val (.int p5), .val (.ref (if (p1 &&& (1 : Int32)) = (0 : Int32) then s_MALE else s_FEMALE)), .val (.ref (if (p3 &&& (1 : Int32)) = (0 : Int32) then s_MALE else s_FEMALE)), .val (.int (if (p5 &&& (1 : Int32)) = (0 : Int32) then p4 else p2)), .val (.ref b19), .val (.ref b21), .val (.int (((p5.toUInt32 >>> ((1 : Int32) &&& 31).toUInt32).toInt32) &&& (3 : Int32))), .val (.int (0 : Int32))] [(.int (own_f3 (if (p3 &&& (1 : Int32)) = (0 : Int32) then s_MALE else s_FEMALE) (if (p1 &&& (1 : Int32)) = (0 : Int32) then s_MALE else s_FEMALE) (if (p5 &&& (1 : Int32)) = (0 : Int32) then p4 else p2) p2))])) _
        refine XS.iload X39.here hx rfl (hb hby at_127) rfl ?_
        show Steps p.tables e below (T39.setTop (mkF m 129 #[.val (.int p1), .val (.int p2), .val (.int p3), .val (.int p4), .val (.int p5), .val (.ref (if (p1 &&& (1 : Int32)) = (0 : Int32) then s_MALE else s_FEMALE)), .val (.ref (if (p3 &&& (1 : Int32)) = (0 : Int32) then s_MALE else s_FEMALE)), .val (.int (if (p5 &&& (1 : Int32)) = (0 : Int32) then p4 else p2)), .val (.ref b19), .val (.ref b21), .val (.int (((p5.toUInt32 >>> ((1 : Int32) &&& 31).toUInt32).toInt32) &&& (3 : Int32))), .val (.int (0 : Int32))] [(.int (0 : Int32)), (.int (own_f3 (if (p3 &&& (1 : Int32)) = (0 : Int32) then s_MALE else s_FEMALE) (if (p1 &&& (1 : Int32)) = (0 : Int32) then s_MALE else s_FEMALE) (if (p5 &&& (1 : Int32)) = (0 : Int32) then p4 else p2) p2))])) _
        refine XS.icmpNo X39.here hx rfl (hb hby at_129) rfl (teq (hq129_4 hc23 hc25)).2 ?_
        show Steps p.tables e below (T39.setTop (mkF m 132 #[.val (.int p1), .val (.int p2), .val (.int p3), .val (.int p4), .val (.int p5), .val (.ref (if (p1 &&& (1 : Int32)) = (0 : Int32) then s_MALE else s_FEMALE)), .val (.ref (if (p3 &&& (1 : Int32)) = (0 : Int32) then s_MALE else s_FEMALE)), .val (.int (if (p5 &&& (1 : Int32)) = (0 : Int32) then p4 else p2)), .val (.ref b19), .val (.ref b21), .val (.int (((p5.toUInt32 >>> ((1 : Int32) &&& 31).toUInt32).toInt32) &&& (3 : Int32))), .val (.int (0 : Int32))] [])) _
        refine XS.iconst X39.here hx rfl (hb hby at_132) ?_
        show Steps p.tables e below (T39.setTop (mkF m 133 #[.val (.int p1), .val (.int p2), .val (.int p3), .val (.int p4), .val (.int p5), .val (.ref (if (p1 &&& (1 : Int32)) = (0 : Int32) then s_MALE else s_FEMALE)), .val (.ref (if (p3 &&& (1 : Int32)) = (0 : Int32) then s_MALE else s_FEMALE)), .val (.int (if (p5 &&& (1 : Int32)) = (0 : Int32) then p4 else p2)), .val (.ref b19), .val (.ref b21), .val (.int (((p5.toUInt32 >>> ((1 : Int32) &&& 31).toUInt32).toInt32) &&& (3 : Int32))), .val (.int (0 : Int32))] [(.int (1 : Int32))])) _
        refine XS.goto X39.here hx rfl (pc0 := 133) (pc' := 137) rfl (hb hby at_133) (by decide) (by decide) ?_
        show Steps p.tables e below (T39.setTop (mkF m 137 #[.val (.int p1), .val (.int p2), .val (.int p3), .val (.int p4), .val (.int p5), .val (.ref (if (p1 &&& (1 : Int32)) = (0 : Int32) then s_MALE else s_FEMALE)), .val (.ref (if (p3 &&& (1 : Int32)) = (0 : Int32) then s_MALE else s_FEMALE)), .val (.int (if (p5 &&& (1 : Int32)) = (0 : Int32) then p4 else p2)), .val (.ref b19), .val (.ref b21), .val (.int (((p5.toUInt32 >>> ((1 : Int32) &&& 31).toUInt32).toInt32) &&& (3 : Int32))), .val (.int (0 : Int32))] [(.int (1 : Int32))])) _
        exact retN X39 hx (t := .boolean) Bd.returns (by simp) (hb hby at_137) hr
      · show Q0 Z p1 p2 p3 p4 p5 cl_cache s_MALE s_FEMALE wel s_cache h0 n0 _ T39.heap _
        rw [e39]
        exact ⟨rfl, N39⟩
  · have pr41 : ∀ t, Steps p.tables e below (T22.setTop (mkF m 141 #[.val (.int p1), .val (.int p2), .val (.int p3), .val (.int p4), .val (.int p5), .val (.ref (if (p1 &&& (1 : Int32)) = (0 : Int32) then s_MALE else s_FEMALE)), .val (.ref (if (p3 &&& (1 : Int32)) = (0 : Int32) then s_MALE else s_FEMALE)), .val (.int (if (p5 &&& (1 : Int32)) = (0 : Int32) then p4 else p2)), .val (.ref b19), .val (.ref b21), .val (.int (((p5.toUInt32 >>> ((1 : Int32) &&& 31).toUInt32).toInt32) &&& (3 : Int32))), .unset] [(.int (1 : Int32)), (.int (((p5.toUInt32 >>> ((1 : Int32) &&& 31).toUInt32).toInt32) &&& (3 : Int32)))])) t → Steps p.tables e below (s₁.setTop (entryFrame m #[(.int p1), (.int p2), (.int p3), (.int p4), (.int p5)] maxLocals)) t := by
      intro t k
      refine pr24 t ?_
      show Steps p.tables e below (T22.setTop (mkF m 83 #[.val (.int p1), .val (.int p2), .val (.int p3), .val (.int p4), .val (.int p5), .val (.ref (if (p1 &&& (1 : Int32)) = (0 : Int32) then s_MALE else s_FEMALE)), .val (.ref (if (p3 &&& (1 : Int32)) = (0 : Int32) then s_MALE else s_FEMALE)), .val (.int (if (p5 &&& (1 : Int32)) = (0 : Int32) then p4 else p2)), .val (.ref b19), .val (.ref b21), .val (.int (((p5.toUInt32 >>> ((1 : Int32) &&& 31).toUInt32).toInt32) &&& (3 : Int32))), .unset] [(.int (((p5.toUInt32 >>> ((1 : Int32) &&& 31).toUInt32).toInt32) &&& (3 : Int32)))])) _
      refine XS.ifYes X22.here hx rfl (pc0 := 83) (pc' := 138) rfl (hb hby at_83) rfl ((if0 _ _).trans (feq hc23).2) (by decide) (by decide) ?_
      show Steps p.tables e below (T22.setTop (mkF m 138 #[.val (.int p1), .val (.int p2), .val (.int p3), .val (.int p4), .val (.int p5), .val (.ref (if (p1 &&& (1 : Int32)) = (0 : Int32) then s_MALE else s_FEMALE)), .val (.ref (if (p3 &&& (1 : Int32)) = (0 : Int32) then s_MALE else s_FEMALE)), .val (.int (if (p5 &&& (1 : Int32)) = (0 : Int32) then p4 else p2)), .val (.ref b19), .val (.ref b21), .val (.int (((p5.toUInt32 >>> ((1 : Int32) &&& 31).toUInt32).toInt32) &&& (3 : Int32))), .unset] [])) _
      refine XS.iload X22.here hx rfl (hb hby at_138) rfl ?_
      show Steps p.tables e below (T22.setTop (mkF m 140 #[.val (.int p1), .val (.int p2), .val (.int p3), .val (.int p4), .val (.int p5), .val (.ref (if (p1 &&& (1 : Int32)) = (0 : Int32) then s_MALE else s_FEMALE)), .val (.ref (if (p3 &&& (1 : Int32)) = (0 : Int32) then s_MALE else s_FEMALE)), .val (.int (if (p5 &&& (1 : Int32)) = (0 : Int32) then p4 else p2)), .val (.ref b19), .val (.ref b21), .val (.int (((p5.toUInt32 >>> ((1 : Int32) &&& 31).toUInt32).toInt32) &&& (3 : Int32))), .unset] [(.int (((p5.toUInt32 >>> ((1 : Int32) &&& 31).toUInt32).toInt32) &&& (3 : Int32)))])) _
      refine XS.iconst X22.here hx rfl (hb hby at_140) ?_
      show Steps p.tables e below (T22.setTop (mkF m 141 #[.val (.int p1), .val (.int p2), .val (.int p3), .val (.int p4), .val (.int p5), .val (.ref (if (p1 &&& (1 : Int32)) = (0 : Int32) then s_MALE else s_FEMALE)), .val (.ref (if (p3 &&& (1 : Int32)) = (0 : Int32) then s_MALE else s_FEMALE)), .val (.int (if (p5 &&& (1 : Int32)) = (0 : Int32) then p4 else p2)), .val (.ref b19), .val (.ref b21), .val (.int (((p5.toUInt32 >>> ((1 : Int32) &&& 31).toUInt32).toInt32) &&& (3 : Int32))), .unset] [(.int (1 : Int32)), (.int (((p5.toUInt32 >>> ((1 : Int32) &&& 31).toUInt32).toInt32) &&& (3 : Int32)))])) _
      exact k
    by_cases hc40 : (((p5.toUInt32 >>> ((1 : Int32) &&& 31).toUInt32).toInt32) &&& (3 : Int32)) = (1 : Int32)
    · have f43 := (Exa.keep (Exa.ext E21 A20) K22)
      obtain ⟨cq42, kq42, q42a, q42b, q42c⟩ := isOf hZ rfl f43
      obtain ⟨_, _, ⟨T42, L42, k42, n42⟩, -, X42, ⟨Lc42, hQ42, l42, y42, z42⟩, st42⟩ := X22.virtualBack hx (y := (⟨"com/example/vestbook/vestbook/engine/Life", "equals", "(Ljava/lang/Object;)Z"⟩ : MethodName)) (z := (⟨"com/example/vestbook/vestbook/engine/Life", "equals", "(Ljava/lang/Object;)Z"⟩ : MethodName)) hown (mvT hZ (hw _ (List.mem_of_getElem? (i := 16) rfl))) (mvT hZ (hw _ (List.mem_of_getElem? (i := 17) rfl))) (notFace_of_selects (args := #[]) (mvT hZ (hw _ (List.mem_of_getElem? (i := 19) rfl)))) (mvT hZ (hw _ (List.mem_of_getElem? (i := 19) rfl))) (mvT hZ (hw _ (List.mem_of_getElem? (i := 18) rfl))) (by decide) (backOf (W := 0) (rm3n l Z a0 hw [] b19 T22.heap n0 Z22) hZ (hw _ (List.mem_of_getElem? (i := 20) rfl)) (hw _ (List.mem_of_getElem? (i := 5) rfl)) (by decide) (by decide)) q42a q42c (g := (mkF m 147 #[.val (.int p1), .val (.int p2), .val (.int p3), .val (.int p4), .val (.int p5), .val (.ref (if (p1 &&& (1 : Int32)) = (0 : Int32) then s_MALE else s_FEMALE)), .val (.ref (if (p3 &&& (1 : Int32)) = (0 : Int32) then s_MALE else s_FEMALE)), .val (.int (if (p5 &&& (1 : Int32)) = (0 : Int32) then p4 else p2)), .val (.ref b19), .val (.ref b21), .val (.int (((p5.toUInt32 >>> ((1 : Int32) &&& 31).toUInt32).toInt32) &&& (3 : Int32))), .unset] [.null, (.ref b19)])) rfl (by rw [hml]; rfl) (Steps.refl _) (argsL := [.null]) (rest := []) (lenOf pd_0_1 rfl) rfl (by show 2 * 0 + _ ≤ _; exact Nat.le_of_eq rfl) (hb hby at_147) (fun _ _ => ⟨rfl, rfl, (by decide : 2 + 0 ≤ _), (by decide : 4 + 0 ≤ _)⟩)
      dsimp only [Pt.U, Pt.locs, Pt.cells, Pt.slots] at X42 l42 y42 z42 st42 hQ42
      subst l42 y42 z42
      obtain ⟨rfl, N42q, e42⟩ := hQ42
      have N42 := Fr.app N22 N42q
      obtain ⟨fs, hr, hrun, hended, hW, hsame⟩ := X42.leave (v := some (.int (1 : Int32))) (fun h => by rw [Bd.returns] at h; cases h)
      refine ⟨_, _, pr41 _ ?_, hrun, hended, _, _, rfl, ?_, ⟨_, rfl⟩, hW, hsame.mono (by decide) (by decide)⟩
      · show Steps p.tables e below (T22.setTop (mkF m 141 #[.val (.int p1), .val (.int p2), .val (.int p3), .val (.int p4), .val (.int p5), .val (.ref (if (p1 &&& (1 : Int32)) = (0 : Int32) then s_MALE else s_FEMALE)), .val (.ref (if (p3 &&& (1 : Int32)) = (0 : Int32) then s_MALE else s_FEMALE)), .val (.int (if (p5 &&& (1 : Int32)) = (0 : Int32) then p4 else p2)), .val (.ref b19), .val (.ref b21), .val (.int (((p5.toUInt32 >>> ((1 : Int32) &&& 31).toUInt32).toInt32) &&& (3 : Int32))), .unset] [(.int (1 : Int32)), (.int (((p5.toUInt32 >>> ((1 : Int32) &&& 31).toUInt32).toInt32) &&& (3 : Int32)))])) _
        refine XS.icmpNo X22.here hx rfl (hb hby at_141) rfl (teq hc40).2 ?_
        show Steps p.tables e below (T22.setTop (mkF m 144 #[.val (.int p1), .val (.int p2), .val (.int p3), .val (.int p4), .val (.int p5), .val (.ref (if (p1 &&& (1 : Int32)) = (0 : Int32) then s_MALE else s_FEMALE)), .val (.ref (if (p3 &&& (1 : Int32)) = (0 : Int32) then s_MALE else s_FEMALE)), .val (.int (if (p5 &&& (1 : Int32)) = (0 : Int32) then p4 else p2)), .val (.ref b19), .val (.ref b21), .val (.int (((p5.toUInt32 >>> ((1 : Int32) &&& 31).toUInt32).toInt32) &&& (3 : Int32))), .unset] [])) _
        refine XS.aload X22.here hx rfl (hb hby at_144) rfl rfl ?_
        show Steps p.tables e below (T22.setTop (mkF m 146 #[.val (.int p1), .val (.int p2), .val (.int p3), .val (.int p4), .val (.int p5), .val (.ref (if (p1 &&& (1 : Int32)) = (0 : Int32) then s_MALE else s_FEMALE)), .val (.ref (if (p3 &&& (1 : Int32)) = (0 : Int32) then s_MALE else s_FEMALE)), .val (.int (if (p5 &&& (1 : Int32)) = (0 : Int32) then p4 else p2)), .val (.ref b19), .val (.ref b21), .val (.int (((p5.toUInt32 >>> ((1 : Int32) &&& 31).toUInt32).toInt32) &&& (3 : Int32))), .unset] [(.ref b19)])) _
        refine XS.aconstNull X22.here hx rfl (hb hby at_146) ?_
        show Steps p.tables e below (T22.setTop (mkF m 147 #[.val (.int p1), .val (.int p2), .val (.int p3), .val (.int p4), .val (.int p5), .val (.ref (if (p1 &&& (1 : Int32)) = (0 : Int32) then s_MALE else s_FEMALE)), .val (.ref (if (p3 &&& (1 : Int32)) = (0 : Int32) then s_MALE else s_FEMALE)), .val (.int (if (p5 &&& (1 : Int32)) = (0 : Int32) then p4 else p2)), .val (.ref b19), .val (.ref b21), .val (.int (((p5.toUInt32 >>> ((1 : Int32) &&& 31).toUInt32).toInt32) &&& (3 : Int32))), .unset] [.null, (.ref b19)])) _
        refine st42.trans ?_
        show Steps p.tables e below (T42.setTop (mkF m 150 #[.val (.int p1), .val (.int p2), .val (.int p3), .val (.int p4), .val (.int p5), .val (.ref (if (p1 &&& (1 : Int32)) = (0 : Int32) then s_MALE else s_FEMALE)), .val (.ref (if (p3 &&& (1 : Int32)) = (0 : Int32) then s_MALE else s_FEMALE)), .val (.int (if (p5 &&& (1 : Int32)) = (0 : Int32) then p4 else p2)), .val (.ref b19), .val (.ref b21), .val (.int (((p5.toUInt32 >>> ((1 : Int32) &&& 31).toUInt32).toInt32) &&& (3 : Int32))), .unset] [(.int (0 : Int32))])) _
        refine XS.ifNo X42.here hx rfl (hb hby at_150) rfl ((if0 _ _).trans (teq (by decide : (0 : Int32) = (0 : Int32))).2) ?_
        show Steps p.tables e below (T42.setTop (mkF m 153 #[.val (.int p1), .val (.int p2), .val (.int p3), .val (.int p4), .val (.int p5), .val (.ref (if (p1 &&& (1 : Int32)) = (0 : Int32) then s_MALE else s_FEMALE)), .val (.ref (if (p3 &&& (1 : Int32)) = (0 : Int32) then s_MALE else s_FEMALE)), .val (.int (if (p5 &&& (1 : Int32)) = (0 : Int32) then p4 else p2)), .val (.ref b19), .val (.ref b21), .val (.int (((p5.toUInt32 >>> ((1 : Int32) &&& 31).toUInt32).toInt32) &&& (3 : Int32))), .unset] [])) _
        refine XS.iconst X42.here hx rfl (hb hby at_153) ?_
        show Steps p.tables e below (T42.setTop (mkF m 154 #[.val (.int p1), .val (.int p2), .val (.int p3), .val (.int p4), .val (.int p5), .val (.ref (if (p1 &&& (1 : Int32)) = (0 : Int32) then s_MALE else s_FEMALE)), .val (.ref (if (p3 &&& (1 : Int32)) = (0 : Int32) then s_MALE else s_FEMALE)), .val (.int (if (p5 &&& (1 : Int32)) = (0 : Int32) then p4 else p2)), .val (.ref b19), .val (.ref b21), .val (.int (((p5.toUInt32 >>> ((1 : Int32) &&& 31).toUInt32).toInt32) &&& (3 : Int32))), .unset] [(.int (1 : Int32))])) _
        refine XS.goto X42.here hx rfl (pc0 := 154) (pc' := 158) rfl (hb hby at_154) (by decide) (by decide) ?_
        show Steps p.tables e below (T42.setTop (mkF m 158 #[.val (.int p1), .val (.int p2), .val (.int p3), .val (.int p4), .val (.int p5), .val (.ref (if (p1 &&& (1 : Int32)) = (0 : Int32) then s_MALE else s_FEMALE)), .val (.ref (if (p3 &&& (1 : Int32)) = (0 : Int32) then s_MALE else s_FEMALE)), .val (.int (if (p5 &&& (1 : Int32)) = (0 : Int32) then p4 else p2)), .val (.ref b19), .val (.ref b21), .val (.int (((p5.toUInt32 >>> ((1 : Int32) &&& 31).toUInt32).toInt32) &&& (3 : Int32))), .unset] [(.int (1 : Int32))])) _
        exact retN X42 hx (t := .boolean) Bd.returns (by simp) (hb hby at_158) hr
      · show Q0 Z p1 p2 p3 p4 p5 cl_cache s_MALE s_FEMALE wel s_cache h0 n0 _ T42.heap _
        rw [e42]
        exact ⟨rfl, N42⟩
    · have pr45 : ∀ t, Steps p.tables e below (T22.setTop (mkF m 162 #[.val (.int p1), .val (.int p2), .val (.int p3), .val (.int p4), .val (.int p5), .val (.ref (if (p1 &&& (1 : Int32)) = (0 : Int32) then s_MALE else s_FEMALE)), .val (.ref (if (p3 &&& (1 : Int32)) = (0 : Int32) then s_MALE else s_FEMALE)), .val (.int (if (p5 &&& (1 : Int32)) = (0 : Int32) then p4 else p2)), .val (.ref b19), .val (.ref b21), .val (.int (((p5.toUInt32 >>> ((1 : Int32) &&& 31).toUInt32).toInt32) &&& (3 : Int32))), .unset] [(.int (2 : Int32)), (.int (((p5.toUInt32 >>> ((1 : Int32) &&& 31).toUInt32).toInt32) &&& (3 : Int32)))])) t → Steps p.tables e below (s₁.setTop (entryFrame m #[(.int p1), (.int p2), (.int p3), (.int p4), (.int p5)] maxLocals)) t := by
        intro t k
        refine pr41 t ?_
        show Steps p.tables e below (T22.setTop (mkF m 141 #[.val (.int p1), .val (.int p2), .val (.int p3), .val (.int p4), .val (.int p5), .val (.ref (if (p1 &&& (1 : Int32)) = (0 : Int32) then s_MALE else s_FEMALE)), .val (.ref (if (p3 &&& (1 : Int32)) = (0 : Int32) then s_MALE else s_FEMALE)), .val (.int (if (p5 &&& (1 : Int32)) = (0 : Int32) then p4 else p2)), .val (.ref b19), .val (.ref b21), .val (.int (((p5.toUInt32 >>> ((1 : Int32) &&& 31).toUInt32).toInt32) &&& (3 : Int32))), .unset] [(.int (1 : Int32)), (.int (((p5.toUInt32 >>> ((1 : Int32) &&& 31).toUInt32).toInt32) &&& (3 : Int32)))])) _
        refine XS.icmpYes X22.here hx rfl (pc0 := 141) (pc' := 159) rfl (hb hby at_141) rfl (feq hc40).2 (by decide) (by decide) ?_
        show Steps p.tables e below (T22.setTop (mkF m 159 #[.val (.int p1), .val (.int p2), .val (.int p3), .val (.int p4), .val (.int p5), .val (.ref (if (p1 &&& (1 : Int32)) = (0 : Int32) then s_MALE else s_FEMALE)), .val (.ref (if (p3 &&& (1 : Int32)) = (0 : Int32) then s_MALE else s_FEMALE)), .val (.int (if (p5 &&& (1 : Int32)) = (0 : Int32) then p4 else p2)), .val (.ref b19), .val (.ref b21), .val (.int (((p5.toUInt32 >>> ((1 : Int32) &&& 31).toUInt32).toInt32) &&& (3 : Int32))), .unset] [])) _
        refine XS.iload X22.here hx rfl (hb hby at_159) rfl ?_
        show Steps p.tables e below (T22.setTop (mkF m 161 #[.val (.int p1), .val (.int p2), .val (.int p3), .val (.int p4), .val (.int p5), .val (.ref (if (p1 &&& (1 : Int32)) = (0 : Int32) then s_MALE else s_FEMALE)), .val (.ref (if (p3 &&& (1 : Int32)) = (0 : Int32) then s_MALE else s_FEMALE)), .val (.int (if (p5 &&& (1 : Int32)) = (0 : Int32) then p4 else p2)), .val (.ref b19), .val (.ref b21), .val (.int (((p5.toUInt32 >>> ((1 : Int32) &&& 31).toUInt32).toInt32) &&& (3 : Int32))), .unset] [(.int (((p5.toUInt32 >>> ((1 : Int32) &&& 31).toUInt32).toInt32) &&& (3 : Int32)))])) _
        refine XS.iconst X22.here hx rfl (hb hby at_161) ?_
        show Steps p.tables e below (T22.setTop (mkF m 162 #[.val (.int p1), .val (.int p2), .val (.int p3), .val (.int p4), .val (.int p5), .val (.ref (if (p1 &&& (1 : Int32)) = (0 : Int32) then s_MALE else s_FEMALE)), .val (.ref (if (p3 &&& (1 : Int32)) = (0 : Int32) then s_MALE else s_FEMALE)), .val (.int (if (p5 &&& (1 : Int32)) = (0 : Int32) then p4 else p2)), .val (.ref b19), .val (.ref b21), .val (.int (((p5.toUInt32 >>> ((1 : Int32) &&& 31).toUInt32).toInt32) &&& (3 : Int32))), .unset] [(.int (2 : Int32)), (.int (((p5.toUInt32 >>> ((1 : Int32) &&& 31).toUInt32).toInt32) &&& (3 : Int32)))])) _
        exact k
      by_cases hc44 : (((p5.toUInt32 >>> ((1 : Int32) &&& 31).toUInt32).toInt32) &&& (3 : Int32)) = (2 : Int32)
      · have pr47 : ∀ t, Steps p.tables e below (T22.setTop (mkF m 168 #[.val (.int p1), .val (.int p2), .val (.int p3), .val (.int p4), .val (.int p5), .val (.ref (if (p1 &&& (1 : Int32)) = (0 : Int32) then s_MALE else s_FEMALE)), .val (.ref (if (p3 &&& (1 : Int32)) = (0 : Int32) then s_MALE else s_FEMALE)), .val (.int (if (p5 &&& (1 : Int32)) = (0 : Int32) then p4 else p2)), .val (.ref b19), .val (.ref b21), .val (.int (((p5.toUInt32 >>> ((1 : Int32) &&& 31).toUInt32).toInt32) &&& (3 : Int32))), .unset] [(.int p2), (.ref b19)])) t → Steps p.tables e below (s₁.setTop (entryFrame m #[(.int p1), (.int p2), (.int p3), (.int p4), (.int p5)] maxLocals)) t := by
          intro t k
          refine pr45 t ?_
          show Steps p.tables e below (T22.setTop (mkF m 162 #[.val (.int p1), .val (.int p2), .val (.int p3), .val (.int p4), .val (.int p5), .val (.ref (if (p1 &&& (1 : Int32)) = (0 : Int32) then s_MALE else s_FEMALE)), .val (.ref (if (p3 &&& (1 : Int32)) = (0 : Int32) then s_MALE else s_FEMALE)), .val (.int (if (p5 &&& (1 : Int32)) = (0 : Int32) then p4 else p2)), .val (.ref b19), .val (.ref b21), .val (.int (((p5.toUInt32 >>> ((1 : Int32) &&& 31).toUInt32).toInt32) &&& (3 : Int32))), .unset] [(.int (2 : Int32)), (.int (((p5.toUInt32 >>> ((1 : Int32) &&& 31).toUInt32).toInt32) &&& (3 : Int32)))])) _
          refine XS.icmpNo X22.here hx rfl (hb hby at_162) rfl (teq hc44).2 ?_
          show Steps p.tables e below (T22.setTop (mkF m 165 #[.val (.int p1), .val (.int p2), .val (.int p3), .val (.int p4), .val (.int p5), .val (.ref (if (p1 &&& (1 : Int32)) = (0 : Int32) then s_MALE else s_FEMALE)), .val (.ref (if (p3 &&& (1 : Int32)) = (0 : Int32) then s_MALE else s_FEMALE)), .val (.int (if (p5 &&& (1 : Int32)) = (0 : Int32) then p4 else p2)), .val (.ref b19), .val (.ref b21), .val (.int (((p5.toUInt32 >>> ((1 : Int32) &&& 31).toUInt32).toInt32) &&& (3 : Int32))), .unset] [])) _
          refine XS.aload X22.here hx rfl (hb hby at_165) rfl rfl ?_
          show Steps p.tables e below (T22.setTop (mkF m 167 #[.val (.int p1), .val (.int p2), .val (.int p3), .val (.int p4), .val (.int p5), .val (.ref (if (p1 &&& (1 : Int32)) = (0 : Int32) then s_MALE else s_FEMALE)), .val (.ref (if (p3 &&& (1 : Int32)) = (0 : Int32) then s_MALE else s_FEMALE)), .val (.int (if (p5 &&& (1 : Int32)) = (0 : Int32) then p4 else p2)), .val (.ref b19), .val (.ref b21), .val (.int (((p5.toUInt32 >>> ((1 : Int32) &&& 31).toUInt32).toInt32) &&& (3 : Int32))), .unset] [(.ref b19)])) _
          refine XS.iloadN X22.here hx rfl (hb hby at_167) rfl ?_
          exact k
        by_cases hc46 : p2 < (-128 : Int32)
        · obtain ⟨_, _, ⟨T48, L48, k48, n48⟩, -, X48, ⟨Lc48, hQ48, l48, y48, z48⟩, st48⟩ := Jvm.LawKit.callS X22 hx (y := (⟨"java/lang/Integer", "valueOf", "(I)Ljava/lang/Integer;"⟩ : MethodName)) hown (mvT hZ (hw _ (List.mem_of_getElem? (i := 25) rfl))) (mvT hZ (hw _ (List.mem_of_getElem? (i := 26) rfl))) (mvT hZ (hw _ (List.mem_of_getElem? (i := 27) rfl))) (mvT hZ (hw _ (List.mem_of_getElem? (i := 28) rfl))) (by decide) (backOf (W := 1) (rm4a l Z a0 hw [] p2 T22.heap n0 Z22 hc46) hZ (hw _ (List.mem_of_getElem? (i := 28) rfl)) (hw _ (List.mem_of_getElem? (i := 27) rfl)) (by decide) (by decide)) (g := (mkF m 168 #[.val (.int p1), .val (.int p2), .val (.int p3), .val (.int p4), .val (.int p5), .val (.ref (if (p1 &&& (1 : Int32)) = (0 : Int32) then s_MALE else s_FEMALE)), .val (.ref (if (p3 &&& (1 : Int32)) = (0 : Int32) then s_MALE else s_FEMALE)), .val (.int (if (p5 &&& (1 : Int32)) = (0 : Int32) then p4 else p2)), .val (.ref b19), .val (.ref b21), .val (.int (((p5.toUInt32 >>> ((1 : Int32) &&& 31).toUInt32).toInt32) &&& (3 : Int32))), .unset] [(.int p2), (.ref b19)])) rfl (by rw [hml]; rfl) (argsL := [(.int p2)]) (rest := [(.ref b19)]) (lenOf pd_0_2 rfl) rfl (by show 2 * 0 + _ ≤ _; exact Nat.le_of_eq rfl) (hb hby at_168) (fun _ _ => ⟨rfl, rfl, (by decide : 2 + 1 ≤ _), (by decide : 4 + 1 ≤ _)⟩)
          dsimp only [Pt.U, Pt.locs, Pt.cells, Pt.slots] at X48 l48 y48 z48 st48 hQ48
          subst l48 y48 z48
          have f49 := (Exa.keep (Exa.ext E21 A20) K22)
          obtain ⟨rfl, N48q, K48, A48⟩ := hQ48
          have N48 := Fr.app N22 N48q
          obtain ⟨b48, g48⟩ : ∃ z, z = T22.heap.size := ⟨_, rfl⟩
          rw [← g48] at st48 A48
          have g_b48 : n0 ≤ b48 := Nat.le_trans Z22 (Nat.le_of_eq g48.symm)
          have sz_b48 : h0.size ≤ b48 := Nat.le_trans KK22.1 (Nat.le_of_eq g48.symm)
          have Z48 : n0 ≤ T48.heap.size := Nat.le_trans Z22 K48.1
          have KK48 := Keep.trans KK22 K48 all0
          have f51 := (Exa.keep f49 K48)
          obtain ⟨cq50, kq50, q50a, q50b, q50c⟩ := isOf hZ rfl f51
          obtain ⟨_, _, ⟨T50, L50, k50, n50⟩, -, X50, ⟨Lc50, hQ50, l50, y50, z50⟩, st50⟩ := X48.virtualBack hx (y := (⟨"com/example/vestbook/vestbook/engine/Life", "equals", "(Ljava/lang/Object;)Z"⟩ : MethodName)) (z := (⟨"com/example/vestbook/vestbook/engine/Life", "equals", "(Ljava/lang/Object;)Z"⟩ : MethodName)) hown (mvT hZ (hw _ (List.mem_of_getElem? (i := 16) rfl))) (mvT hZ (hw _ (List.mem_of_getElem? (i := 17) rfl))) (notFace_of_selects (args := #[]) (mvT hZ (hw _ (List.mem_of_getElem? (i := 19) rfl)))) (mvT hZ (hw _ (List.mem_of_getElem? (i := 19) rfl))) (mvT hZ (hw _ (List.mem_of_getElem? (i := 18) rfl))) (by decide) (backOf (W := 0) (rm3i l Z a0 hw [] b19 b48 T48.heap n0 Z48 A48 hq_3i_hno) hZ (hw _ (List.mem_of_getElem? (i := 20) rfl)) (hw _ (List.mem_of_getElem? (i := 5) rfl)) (by decide) (by decide)) q50a q50c (g := (mkF m 171 #[.val (.int p1), .val (.int p2), .val (.int p3), .val (.int p4), .val (.int p5), .val (.ref (if (p1 &&& (1 : Int32)) = (0 : Int32) then s_MALE else s_FEMALE)), .val (.ref (if (p3 &&& (1 : Int32)) = (0 : Int32) then s_MALE else s_FEMALE)), .val (.int (if (p5 &&& (1 : Int32)) = (0 : Int32) then p4 else p2)), .val (.ref b19), .val (.ref b21), .val (.int (((p5.toUInt32 >>> ((1 : Int32) &&& 31).toUInt32).toInt32) &&& (3 : Int32))), .unset] [(.ref b48), (.ref b19)])) rfl (by rw [hml]; rfl) (Steps.refl _) (argsL := [(.ref b48)]) (rest := []) (lenOf pd_0_1 rfl) rfl (by show 2 * 0 + _ ≤ _; exact Nat.le_of_eq rfl) (hb hby at_171) (fun _ _ => ⟨rfl, rfl, (by decide : 3 + 0 ≤ _), (by decide : 5 + 0 ≤ _)⟩)
          dsimp only [Pt.U, Pt.locs, Pt.cells, Pt.slots] at X50 l50 y50 z50 st50 hQ50
          subst l50 y50 z50
          obtain ⟨rfl, N50q, e50⟩ := hQ50
          have N50 := Fr.app N48 N50q
          obtain ⟨fs, hr, hrun, hended, hW, hsame⟩ := X50.leave (v := some (.int (1 : Int32))) (fun h => by rw [Bd.returns] at h; cases h)
          refine ⟨_, _, pr47 _ ?_, hrun, hended, _, _, rfl, ?_, ⟨_, rfl⟩, hW, hsame.mono (by decide) (by decide)⟩
          · show Steps p.tables e below (T22.setTop (mkF m 168 #[.val (.int p1), .val (.int p2), .val (.int p3), .val (.int p4), .val (.int p5), .val (.ref (if (p1 &&& (1 : Int32)) = (0 : Int32) then s_MALE else s_FEMALE)), .val (.ref (if (p3 &&& (1 : Int32)) = (0 : Int32) then s_MALE else s_FEMALE)), .val (.int (if (p5 &&& (1 : Int32)) = (0 : Int32) then p4 else p2)), .val (.ref b19), .val (.ref b21), .val (.int (((p5.toUInt32 >>> ((1 : Int32) &&& 31).toUInt32).toInt32) &&& (3 : Int32))), .unset] [(.int p2), (.ref b19)])) _
            refine st48 _ ?_
            show Steps p.tables e below (T48.setTop (mkF m 171 #[.val (.int p1), .val (.int p2), .val (.int p3), .val (.int p4), .val (.int p5), .val (.ref (if (p1 &&& (1 : Int32)) = (0 : Int32) then s_MALE else s_FEMALE)), .val (.ref (if (p3 &&& (1 : Int32)) = (0 : Int32) then s_MALE else s_FEMALE)), .val (.int (if (p5 &&& (1 : Int32)) = (0 : Int32) then p4 else p2)), .val (.ref b19), .val (.ref b21), .val (.int (((p5.toUInt32 >>> ((1 : Int32) &&& 31).toUInt32).toInt32) &&& (3 : Int32))), .unset] [(.ref b48), (.ref b19)])) _
            refine st50.trans ?_
            show Steps p.tables e below (T50.setTop (mkF m 174 #[.val (.int p1), .val (.int p2), .val (.int p3), .val (.int p4), .val (.int p5), .val (.ref (if (p1 &&& (1 : Int32)) = (0 : Int32) then s_MALE else s_FEMALE)), .val (.ref (if (p3 &&& (1 : Int32)) = (0 : Int32) then s_MALE else s_FEMALE)), .val (.int (if (p5 &&& (1 : Int32)) = (0 : Int32) then p4 else p2)), .val (.ref b19), .val (.ref b21), .val (.int (((p5.toUInt32 >>> ((1 : Int32) &&& 31).toUInt32).toInt32) &&& (3 : Int32))), .unset] [(.int (0 : Int32))])) _
            refine XS.ifNo X50.here hx rfl (hb hby at_174) rfl ((if0 _ _).trans (teq (by decide : (0 : Int32) = (0 : Int32))).2) ?_
            show Steps p.tables e below (T50.setTop (mkF m 177 #[.val (.int p1), .val (.int p2), .val (.int p3), .val (.int p4), .val (.int p5), .val (.ref (if (p1 &&& (1 : Int32)) = (0 : Int32) then s_MALE else s_FEMALE)), .val (.ref (if (p3 &&& (1 : Int32)) = (0 : Int32) then s_MALE else s_FEMALE)), .val (.int (if (p5 &&& (1 : Int32)) = (0 : Int32) then p4 else p2)), .val (.ref b19), .val (.ref b21), .val (.int (((p5.toUInt32 >>> ((1 : Int32) &&& 31).toUInt32).toInt32) &&& (3 : Int32))), .unset] [])) _
            refine XS.iconst X50.here hx rfl (hb hby at_177) ?_
            show Steps p.tables e below (T50.setTop (mkF m 178 #[.val (.int p1), .val (.int p2), .val (.int p3), .val (.int p4), .val (.int p5), .val (.ref (if (p1 &&& (1 : Int32)) = (0 : Int32) then s_MALE else s_FEMALE)), .val (.ref (if (p3 &&& (1 : Int32)) = (0 : Int32) then s_MALE else s_FEMALE)), .val (.int (if (p5 &&& (1 : Int32)) = (0 : Int32) then p4 else p2)), .val (.ref b19), .val (.ref b21), .val (.int (((p5.toUInt32 >>> ((1 : Int32) &&& 31).toUInt32).toInt32) &&& (3 : Int32))), .unset] [(.int (1 : Int32))])) _
            refine XS.goto X50.here hx rfl (pc0 := 178) (pc' := 182) rfl (hb hby at_178) (by decide) (by decide) ?_
            show Steps p.tables e below (T50.setTop (mkF m 182 #[.val (.int p1), .val (.int p2), .val (.int p3), .val (.int p4), .val (.int p5), .val (.ref (if (p1 &&& (1 : Int32)) = (0 : Int32) then s_MALE else s_FEMALE)), .val (.ref (if (p3 &&& (1 : Int32)) = (0 : Int32) then s_MALE else s_FEMALE)), .val (.int (if (p5 &&& (1 : Int32)) = (0 : Int32) then p4 else p2)), .val (.ref b19), .val (.ref b21), .val (.int (((p5.toUInt32 >>> ((1 : Int32) &&& 31).toUInt32).toInt32) &&& (3 : Int32))), .unset] [(.int (1 : Int32))])) _
            exact retN X50 hx (t := .boolean) Bd.returns (by simp) (hb hby at_182) hr
          · show Q0 Z p1 p2 p3 p4 p5 cl_cache s_MALE s_FEMALE wel s_cache h0 n0 _ T50.heap _
            rw [e50]
            exact ⟨rfl, N50⟩
        · have pr53 : ∀ t, Steps p.tables e below (T22.setTop (mkF m 168 #[.val (.int p1), .val (.int p2), .val (.int p3), .val (.int p4), .val (.int p5), .val (.ref (if (p1 &&& (1 : Int32)) = (0 : Int32) then s_MALE else s_FEMALE)), .val (.ref (if (p3 &&& (1 : Int32)) = (0 : Int32) then s_MALE else s_FEMALE)), .val (.int (if (p5 &&& (1 : Int32)) = (0 : Int32) then p4 else p2)), .val (.ref b19), .val (.ref b21), .val (.int (((p5.toUInt32 >>> ((1 : Int32) &&& 31).toUInt32).toInt32) &&& (3 : Int32))), .unset] [(.int p2), (.ref b19)])) t → Steps p.tables e below (s₁.setTop (entryFrame m #[(.int p1), (.int p2), (.int p3), (.int p4), (.int p5)] maxLocals)) t := by
            intro t k
            refine pr47 t ?_
            exact k
          by_cases hc52 : (127 : Int32) < p2
          · have f55 := (own_staKeep (Sta.ext E21 (own_staKeep (Sta.ext E19 S_high) K20 (allS (fun c q => by obtain ⟨c', _, q', -, -, q4, -⟩ := A19; cases q'.symm.trans q; exact q4) all0))) K22 (allS (fun c q => by obtain ⟨c', _, q', -, -, q4, -⟩ := A21; cases q'.symm.trans q; exact q4) all0))
            obtain ⟨_, _, ⟨T54, L54, k54, n54⟩, -, X54, ⟨Lc54, hQ54, l54, y54, z54⟩, st54⟩ := Jvm.LawKit.callS X22 hx (y := (⟨"java/lang/Integer", "valueOf", "(I)Ljava/lang/Integer;"⟩ : MethodName)) hown (mvT hZ (hw _ (List.mem_of_getElem? (i := 25) rfl))) (mvT hZ (hw _ (List.mem_of_getElem? (i := 26) rfl))) (mvT hZ (hw _ (List.mem_of_getElem? (i := 27) rfl))) (mvT hZ (hw _ (List.mem_of_getElem? (i := 28) rfl))) (by decide) (backOf (W := 1) (rm4b l Z a0 hw [] p2 T22.heap n0 Z22 hc46 f55 hc52) hZ (hw _ (List.mem_of_getElem? (i := 28) rfl)) (hw _ (List.mem_of_getElem? (i := 27) rfl)) (by decide) (by decide)) (g := (mkF m 168 #[.val (.int p1), .val (.int p2), .val (.int p3), .val (.int p4), .val (.int p5), .val (.ref (if (p1 &&& (1 : Int32)) = (0 : Int32) then s_MALE else s_FEMALE)), .val (.ref (if (p3 &&& (1 : Int32)) = (0 : Int32) then s_MALE else s_FEMALE)), .val (.int (if (p5 &&& (1 : Int32)) = (0 : Int32) then p4 else p2)), .val (.ref b19), .val (.ref b21), .val (.int (((p5.toUInt32 >>> ((1 : Int32) &&& 31).toUInt32).toInt32) &&& (3 : Int32))), .unset] [(.int p2), (.ref b19)])) rfl (by rw [hml]; rfl) (argsL := [(.int p2)]) (rest := [(.ref b19)]) (lenOf pd_0_2 rfl) rfl (by show 2 * 0 + _ ≤ _; exact Nat.le_of_eq rfl) (hb hby at_168) (fun _ _ => ⟨rfl, rfl, (by decide : 2 + 1 ≤ _), (by decide : 4 + 1 ≤ _)⟩)
            dsimp only [Pt.U, Pt.locs, Pt.cells, Pt.slots] at X54 l54 y54 z54 st54 hQ54
            subst l54 y54 z54
            have f56 := (Exa.keep (Exa.ext E21 A20) K22)
            obtain ⟨rfl, N54q, K54, A54⟩ := hQ54
            have N54 := Fr.app N22 N54q
            obtain ⟨b54, g54⟩ : ∃ z, z = T22.heap.size := ⟨_, rfl⟩
            rw [← g54] at st54 A54
            have g_b54 : n0 ≤ b54 := Nat.le_trans Z22 (Nat.le_of_eq g54.symm)
            have sz_b54 : h0.size ≤ b54 := Nat.le_trans KK22.1 (Nat.le_of_eq g54.symm)
            have Z54 : n0 ≤ T54.heap.size := Nat.le_trans Z22 K54.1
            have KK54 := Keep.trans KK22 K54 all0
            have f58 := (Exa.keep f56 K54)
            obtain ⟨cq57, kq57, q57a, q57b, q57c⟩ := isOf hZ rfl f58
            obtain ⟨_, _, ⟨T57, L57, k57, n57⟩, -, X57, ⟨Lc57, hQ57, l57, y57, z57⟩, st57⟩ := X54.virtualBack hx (y := (⟨"com/example/vestbook/vestbook/engine/Life", "equals", "(Ljava/lang/Object;)Z"⟩ : MethodName)) (z := (⟨"com/example/vestbook/vestbook/engine/Life", "equals", "(Ljava/lang/Object;)Z"⟩ : MethodName)) hown (mvT hZ (hw _ (List.mem_of_getElem? (i := 16) rfl))) (mvT hZ (hw _ (List.mem_of_getElem? (i := 17) rfl))) (notFace_of_selects (args := #[]) (mvT hZ (hw _ (List.mem_of_getElem? (i := 19) rfl)))) (mvT hZ (hw _ (List.mem_of_getElem? (i := 19) rfl))) (mvT hZ (hw _ (List.mem_of_getElem? (i := 18) rfl))) (by decide) (backOf (W := 0) (rm3i l Z a0 hw [] b19 b54 T54.heap n0 Z54 A54 hq_3i_hno) hZ (hw _ (List.mem_of_getElem? (i := 20) rfl)) (hw _ (List.mem_of_getElem? (i := 5) rfl)) (by decide) (by decide)) q57a q57c (g := (mkF m 171 #[.val (.int p1), .val (.int p2), .val (.int p3), .val (.int p4), .val (.int p5), .val (.ref (if (p1 &&& (1 : Int32)) = (0 : Int32) then s_MALE else s_FEMALE)), .val (.ref (if (p3 &&& (1 : Int32)) = (0 : Int32) then s_MALE else s_FEMALE)), .val (.int (if (p5 &&& (1 : Int32)) = (0 : Int32) then p4 else p2)), .val (.ref b19), .val (.ref b21), .val (.int (((p5.toUInt32 >>> ((1 : Int32) &&& 31).toUInt32).toInt32) &&& (3 : Int32))), .unset] [(.ref b54), (.ref b19)])) rfl (by rw [hml]; rfl) (Steps.refl _) (argsL := [(.ref b54)]) (rest := []) (lenOf pd_0_1 rfl) rfl (by show 2 * 0 + _ ≤ _; exact Nat.le_of_eq rfl) (hb hby at_171) (fun _ _ => ⟨rfl, rfl, (by decide : 3 + 0 ≤ _), (by decide : 5 + 0 ≤ _)⟩)
            dsimp only [Pt.U, Pt.locs, Pt.cells, Pt.slots] at X57 l57 y57 z57 st57 hQ57
            subst l57 y57 z57
            obtain ⟨rfl, N57q, e57⟩ := hQ57
            have N57 := Fr.app N54 N57q
            obtain ⟨fs, hr, hrun, hended, hW, hsame⟩ := X57.leave (v := some (.int (1 : Int32))) (fun h => by rw [Bd.returns] at h; cases h)
            refine ⟨_, _, pr53 _ ?_, hrun, hended, _, _, rfl, ?_, ⟨_, rfl⟩, hW, hsame.mono (by decide) (by decide)⟩
            · show Steps p.tables e below (T22.setTop (mkF m 168 #[.val (.int p1), .val (.int p2), .val (.int p3), .val (.int p4), .val (.int p5), .val (.ref (if (p1 &&& (1 : Int32)) = (0 : Int32) then s_MALE else s_FEMALE)), .val (.ref (if (p3 &&& (1 : Int32)) = (0 : Int32) then s_MALE else s_FEMALE)), .val (.int (if (p5 &&& (1 : Int32)) = (0 : Int32) then p4 else p2)), .val (.ref b19), .val (.ref b21), .val (.int (((p5.toUInt32 >>> ((1 : Int32) &&& 31).toUInt32).toInt32) &&& (3 : Int32))), .unset] [(.int p2), (.ref b19)])) _
              refine st54 _ ?_
              show Steps p.tables e below (T54.setTop (mkF m 171 #[.val (.int p1), .val (.int p2), .val (.int p3), .val (.int p4), .val (.int p5), .val (.ref (if (p1 &&& (1 : Int32)) = (0 : Int32) then s_MALE else s_FEMALE)), .val (.ref (if (p3 &&& (1 : Int32)) = (0 : Int32) then s_MALE else s_FEMALE)), .val (.int (if (p5 &&& (1 : Int32)) = (0 : Int32) then p4 else p2)), .val (.ref b19), .val (.ref b21), .val (.int (((p5.toUInt32 >>> ((1 : Int32) &&& 31).toUInt32).toInt32) &&& (3 : Int32))), .unset] [(.ref b54), (.ref b19)])) _
              refine st57.trans ?_
              show Steps p.tables e below (T57.setTop (mkF m 174 #[.val (.int p1), .val (.int p2), .val (.int p3), .val (.int p4), .val (.int p5), .val (.ref (if (p1 &&& (1 : Int32)) = (0 : Int32) then s_MALE else s_FEMALE)), .val (.ref (if (p3 &&& (1 : Int32)) = (0 : Int32) then s_MALE else s_FEMALE)), .val (.int (if (p5 &&& (1 : Int32)) = (0 : Int32) then p4 else p2)), .val (.ref b19), .val (.ref b21), .val (.int (((p5.toUInt32 >>> ((1 : Int32) &&& 31).toUInt32).toInt32) &&& (3 : Int32))), .unset] [(.int (0 : Int32))])) _
              refine XS.ifNo X57.here hx rfl (hb hby at_174) rfl ((if0 _ _).trans (teq (by decide : (0 : Int32) = (0 : Int32))).2) ?_
              show Steps p.tables e below (T57.setTop (mkF m 177 #[.val (.int p1), .val (.int p2), .val (.int p3), .val (.int p4), .val (.int p5), .val (.ref (if (p1 &&& (1 : Int32)) = (0 : Int32) then s_MALE else s_FEMALE)), .val (.ref (if (p3 &&& (1 : Int32)) = (0 : Int32) then s_MALE else s_FEMALE)), .val (.int (if (p5 &&& (1 : Int32)) = (0 : Int32) then p4 else p2)), .val (.ref b19), .val (.ref b21), .val (.int (((p5.toUInt32 >>> ((1 : Int32) &&& 31).toUInt32).toInt32) &&& (3 : Int32))), .unset] [])) _
              refine XS.iconst X57.here hx rfl (hb hby at_177) ?_
              show Steps p.tables e below (T57.setTop (mkF m 178 #[.val (.int p1), .val (.int p2), .val (.int p3), .val (.int p4), .val (.int p5), .val (.ref (if (p1 &&& (1 : Int32)) = (0 : Int32) then s_MALE else s_FEMALE)), .val (.ref (if (p3 &&& (1 : Int32)) = (0 : Int32) then s_MALE else s_FEMALE)), .val (.int (if (p5 &&& (1 : Int32)) = (0 : Int32) then p4 else p2)), .val (.ref b19), .val (.ref b21), .val (.int (((p5.toUInt32 >>> ((1 : Int32) &&& 31).toUInt32).toInt32) &&& (3 : Int32))), .unset] [(.int (1 : Int32))])) _
              refine XS.goto X57.here hx rfl (pc0 := 178) (pc' := 182) rfl (hb hby at_178) (by decide) (by decide) ?_
              show Steps p.tables e below (T57.setTop (mkF m 182 #[.val (.int p1), .val (.int p2), .val (.int p3), .val (.int p4), .val (.int p5), .val (.ref (if (p1 &&& (1 : Int32)) = (0 : Int32) then s_MALE else s_FEMALE)), .val (.ref (if (p3 &&& (1 : Int32)) = (0 : Int32) then s_MALE else s_FEMALE)), .val (.int (if (p5 &&& (1 : Int32)) = (0 : Int32) then p4 else p2)), .val (.ref b19), .val (.ref b21), .val (.int (((p5.toUInt32 >>> ((1 : Int32) &&& 31).toUInt32).toInt32) &&& (3 : Int32))), .unset] [(.int (1 : Int32))])) _
              exact retN X57 hx (t := .boolean) Bd.returns (by simp) (hb hby at_182) hr
            · show Q0 Z p1 p2 p3 p4 p5 cl_cache s_MALE s_FEMALE wel s_cache h0 n0 _ T57.heap _
              rw [e57]
              exact ⟨rfl, N57⟩
          · have f60 := (own_arrKeep (Arr.ext E21 (own_arrKeep (Arr.ext E19 Ar_s_cache) K20 (ninS (Nat.ne_of_lt (Nat.lt_of_lt_of_le Ar_s_cache.lt sz_b19)) nin0))) K22 (ninS (Nat.ne_of_lt (Nat.lt_of_lt_of_le Ar_s_cache.lt sz_b21)) nin0))
            have f61 := (own_staKeep (Sta.ext E21 (own_staKeep (Sta.ext E19 S_high) K20 (allS (fun c q => by obtain ⟨c', _, q', -, -, q4, -⟩ := A19; cases q'.symm.trans q; exact q4) all0))) K22 (allS (fun c q => by obtain ⟨c', _, q', -, -, q4, -⟩ := A21; cases q'.symm.trans q; exact q4) all0))
            have f62 := (own_staKeep (Sta.ext E21 (own_staKeep (Sta.ext E19 S_cache) K20 (allS (fun c q => by obtain ⟨c', _, q', -, -, q4, -⟩ := A19; cases q'.symm.trans q; exact q4) all0))) K22 (allS (fun c q => by obtain ⟨c', _, q', -, -, q4, -⟩ := A21; cases q'.symm.trans q; exact q4) all0))
            obtain ⟨_, _, ⟨T59, L59, k59, n59⟩, -, X59, ⟨Lc59, hQ59, l59, y59, z59⟩, st59⟩ := Jvm.LawKit.callS X22 hx (y := (⟨"java/lang/Integer", "valueOf", "(I)Ljava/lang/Integer;"⟩ : MethodName)) hown (mvT hZ (hw _ (List.mem_of_getElem? (i := 25) rfl))) (mvT hZ (hw _ (List.mem_of_getElem? (i := 26) rfl))) (mvT hZ (hw _ (List.mem_of_getElem? (i := 27) rfl))) (mvT hZ (hw _ (List.mem_of_getElem? (i := 28) rfl))) (by decide) (backOf (W := 1) (rm4c l Z a0 hw [] p2 cl_cache s_cache wel T22.heap n0 Z22 f60 hc46 f61 hc52 f62 (hc_hin21 hc46 hc52) (hc_hat21 hc46 hc52)) hZ (hw _ (List.mem_of_getElem? (i := 28) rfl)) (hw _ (List.mem_of_getElem? (i := 27) rfl)) (by decide) (by decide)) (g := (mkF m 168 #[.val (.int p1), .val (.int p2), .val (.int p3), .val (.int p4), .val (.int p5), .val (.ref (if (p1 &&& (1 : Int32)) = (0 : Int32) then s_MALE else s_FEMALE)), .val (.ref (if (p3 &&& (1 : Int32)) = (0 : Int32) then s_MALE else s_FEMALE)), .val (.int (if (p5 &&& (1 : Int32)) = (0 : Int32) then p4 else p2)), .val (.ref b19), .val (.ref b21), .val (.int (((p5.toUInt32 >>> ((1 : Int32) &&& 31).toUInt32).toInt32) &&& (3 : Int32))), .unset] [(.int p2), (.ref b19)])) rfl (by rw [hml]; rfl) (argsL := [(.int p2)]) (rest := [(.ref b19)]) (lenOf pd_0_2 rfl) rfl (by show 2 * 0 + _ ≤ _; exact Nat.le_of_eq rfl) (hb hby at_168) (fun _ _ => ⟨rfl, rfl, (by decide : 2 + 0 ≤ _), (by decide : 4 + 0 ≤ _)⟩)
            dsimp only [Pt.U, Pt.locs, Pt.cells, Pt.slots] at X59 l59 y59 z59 st59 hQ59
            subst l59 y59 z59
            obtain ⟨rfl, N59q, e59⟩ := hQ59
            have N59 := Fr.app N22 N59q
            have f64 := (Exa.keep (Exa.ext E21 A20) K22)
            obtain ⟨cq63, kq63, q63a, q63b, q63c⟩ := isOf hZ e59 f64
            have f65 := (Exa.keep (Exa.ext E21 (Exa.keep (Exa.ext E19 (E_wel hc46 hc52)) K20)) K22)
            obtain ⟨_, _, ⟨T63, L63, k63, n63⟩, -, X63, ⟨Lc63, hQ63, l63, y63, z63⟩, st63⟩ := X59.virtualBack hx (y := (⟨"com/example/vestbook/vestbook/engine/Life", "equals", "(Ljava/lang/Object;)Z"⟩ : MethodName)) (z := (⟨"com/example/vestbook/vestbook/engine/Life", "equals", "(Ljava/lang/Object;)Z"⟩ : MethodName)) hown (mvT hZ (hw _ (List.mem_of_getElem? (i := 16) rfl))) (mvT hZ (hw _ (List.mem_of_getElem? (i := 17) rfl))) (notFace_of_selects (args := #[]) (mvT hZ (hw _ (List.mem_of_getElem? (i := 19) rfl)))) (mvT hZ (hw _ (List.mem_of_getElem? (i := 19) rfl))) (mvT hZ (hw _ (List.mem_of_getElem? (i := 18) rfl))) (by decide) (backOf (W := 0) (rm3i l Z a0 hw [] b19 wel T22.heap n0 Z22 f65 hq_3i_hno) hZ (hw _ (List.mem_of_getElem? (i := 20) rfl)) (hw _ (List.mem_of_getElem? (i := 5) rfl)) (by decide) (by decide)) q63a q63c (g := (mkF m 171 #[.val (.int p1), .val (.int p2), .val (.int p3), .val (.int p4), .val (.int p5), .val (.ref (if (p1 &&& (1 : Int32)) = (0 : Int32) then s_MALE else s_FEMALE)), .val (.ref (if (p3 &&& (1 : Int32)) = (0 : Int32) then s_MALE else s_FEMALE)), .val (.int (if (p5 &&& (1 : Int32)) = (0 : Int32) then p4 else p2)), .val (.ref b19), .val (.ref b21), .val (.int (((p5.toUInt32 >>> ((1 : Int32) &&& 31).toUInt32).toInt32) &&& (3 : Int32))), .unset] [(.ref wel), (.ref b19)])) rfl (by rw [hml]; rfl) (Steps.refl _) (argsL := [(.ref wel)]) (rest := []) (lenOf pd_0_1 rfl) rfl (by show 2 * 0 + _ ≤ _; exact Nat.le_of_eq rfl) (hb hby at_171) (fun _ _ => ⟨rfl, e59, (by decide : 2 + 0 ≤ _), (by decide : 4 + 0 ≤ _)⟩)
            dsimp only [Pt.U, Pt.locs, Pt.cells, Pt.slots] at X63 l63 y63 z63 st63 hQ63
            subst l63 y63 z63
            obtain ⟨rfl, N63q, e63⟩ := hQ63
            have N63 := Fr.app N59 N63q
            obtain ⟨fs, hr, hrun, hended, hW, hsame⟩ := X63.leave (v := some (.int (1 : Int32))) (fun h => by rw [Bd.returns] at h; cases h)
            refine ⟨_, _, pr53 _ ?_, hrun, hended, _, _, rfl, ?_, ⟨_, rfl⟩, hW, hsame.mono (by decide) (by decide)⟩
            · show Steps p.tables e below (T22.setTop (mkF m 168 #[.val (.int p1), .val (.int p2), .val (.int p3), .val (.int p4), .val (.int p5), .val (.ref (if (p1 &&& (1 : Int32)) = (0 : Int32) then s_MALE else s_FEMALE)), .val (.ref (if (p3 &&& (1 : Int32)) = (0 : Int32) then s_MALE else s_FEMALE)), .val (.int (if (p5 &&& (1 : Int32)) = (0 : Int32) then p4 else p2)), .val (.ref b19), .val (.ref b21), .val (.int (((p5.toUInt32 >>> ((1 : Int32) &&& 31).toUInt32).toInt32) &&& (3 : Int32))), .unset] [(.int p2), (.ref b19)])) _
              refine st59 _ ?_
              show Steps p.tables e below (T59.setTop (mkF m 171 #[.val (.int p1), .val (.int p2), .val (.int p3), .val (.int p4), .val (.int p5), .val (.ref (if (p1 &&& (1 : Int32)) = (0 : Int32) then s_MALE else s_FEMALE)), .val (.ref (if (p3 &&& (1 : Int32)) = (0 : Int32) then s_MALE else s_FEMALE)), .val (.int (if (p5 &&& (1 : Int32)) = (0 : Int32) then p4 else p2)), .val (.ref b19), .val (.ref b21), .val (.int (((p5.toUInt32 >>> ((1 : Int32) &&& 31).toUInt32).toInt32) &&& (3 : Int32))), .unset] [(.ref wel), (.ref b19)])) _
              refine st63.trans ?_
              show Steps p.tables e below (T63.setTop (mkF m 174 #[.val (.int p1), .val (.int p2), .val (.int p3), .val (.int p4), .val (.int p5), .val (.ref (if (p1 &&& (1 : Int32)) = (0 : Int32) then s_MALE else s_FEMALE)), .val (.ref (if (p3 &&& (1 : Int32)) = (0 : Int32) then s_MALE else s_FEMALE)), .val (.int (if (p5 &&& (1 : Int32)) = (0 : Int32) then p4 else p2)), .val (.ref b19), .val (.ref b21), .val (.int (((p5.toUInt32 >>> ((1 : Int32) &&& 31).toUInt32).toInt32) &&& (3 : Int32))), .unset] [(.int (0 : Int32))])) _
              refine XS.ifNo X63.here hx rfl (hb hby at_174) rfl ((if0 _ _).trans (teq (by decide : (0 : Int32) = (0 : Int32))).2) ?_
              show Steps p.tables e below (T63.setTop (mkF m 177 #[.val (.int p1), .val (.int p2), .val (.int p3), .val (.int p4), .val (.int p5), .val (.ref (if (p1 &&& (1 : Int32)) = (0 : Int32) then s_MALE else s_FEMALE)), .val (.ref (if (p3 &&& (1 : Int32)) = (0 : Int32) then s_MALE else s_FEMALE)), .val (.int (if (p5 &&& (1 : Int32)) = (0 : Int32) then p4 else p2)), .val (.ref b19), .val (.ref b21), .val (.int (((p5.toUInt32 >>> ((1 : Int32) &&& 31).toUInt32).toInt32) &&& (3 : Int32))), .unset] [])) _
              refine XS.iconst X63.here hx rfl (hb hby at_177) ?_
              show Steps p.tables e below (T63.setTop (mkF m 178 #[.val (.int p1), .val (.int p2), .val (.int p3), .val (.int p4), .val (.int p5), .val (.ref (if (p1 &&& (1 : Int32)) = (0 : Int32) then s_MALE else s_FEMALE)), .val (.ref (if (p3 &&& (1 : Int32)) = (0 : Int32) then s_MALE else s_FEMALE)), .val (.int (if (p5 &&& (1 : Int32)) = (0 : Int32) then p4 else p2)), .val (.ref b19), .val (.ref b21), .val (.int (((p5.toUInt32 >>> ((1 : Int32) &&& 31).toUInt32).toInt32) &&& (3 : Int32))), .unset] [(.int (1 : Int32))])) _
              refine XS.goto X63.here hx rfl (pc0 := 178) (pc' := 182) rfl (hb hby at_178) (by decide) (by decide) ?_
              show Steps p.tables e below (T63.setTop (mkF m 182 #[.val (.int p1), .val (.int p2), .val (.int p3), .val (.int p4), .val (.int p5), .val (.ref (if (p1 &&& (1 : Int32)) = (0 : Int32) then s_MALE else s_FEMALE)), .val (.ref (if (p3 &&& (1 : Int32)) = (0 : Int32) then s_MALE else s_FEMALE)), .val (.int (if (p5 &&& (1 : Int32)) = (0 : Int32) then p4 else p2)), .val (.ref b19), .val (.ref b21), .val (.int (((p5.toUInt32 >>> ((1 : Int32) &&& 31).toUInt32).toInt32) &&& (3 : Int32))), .unset] [(.int (1 : Int32))])) _
              exact retN X63 hx (t := .boolean) Bd.returns (by simp) (hb hby at_182) hr
            · show Q0 Z p1 p2 p3 p4 p5 cl_cache s_MALE s_FEMALE wel s_cache h0 n0 _ T63.heap _
              rw [e63]
              exact ⟨rfl, N63⟩
      · have f67 := (Exa.keep (Exa.ext E21 A20) K22)
        obtain ⟨cq66, kq66, q66a, q66b, q66c⟩ := isOf hZ rfl f67
        have f68 := (Fld.keep (Fld.ext E21 G20_sex) K22 (ninS (Nat.ne_of_lt (Nat.lt_of_lt_of_le A20.lt (Nat.le_of_eq g21.symm))) nin0))
        have f69 := (Fld.keep (Fld.ext E21 G20_age) K22 (ninS (Nat.ne_of_lt (Nat.lt_of_lt_of_le A20.lt (Nat.le_of_eq g21.symm))) nin0))
        obtain ⟨_, _, ⟨T66, L66, k66, n66⟩, -, X66, ⟨Lc66, hQ66, l66, y66, z66⟩, st66⟩ := X22.virtualBack hx (y := (⟨"com/example/vestbook/vestbook/engine/Life", "equals", "(Ljava/lang/Object;)Z"⟩ : MethodName)) (z := (⟨"com/example/vestbook/vestbook/engine/Life", "equals", "(Ljava/lang/Object;)Z"⟩ : MethodName)) hown (mvT hZ (hw _ (List.mem_of_getElem? (i := 16) rfl))) (mvT hZ (hw _ (List.mem_of_getElem? (i := 17) rfl))) (notFace_of_selects (args := #[]) (mvT hZ (hw _ (List.mem_of_getElem? (i := 19) rfl)))) (mvT hZ (hw _ (List.mem_of_getElem? (i := 19) rfl))) (mvT hZ (hw _ (List.mem_of_getElem? (i := 18) rfl))) (by decide) (backOf (W := 0) (rm3 l Z a0 hw [] b19 b19 (if (p1 &&& (1 : Int32)) = (0 : Int32) then s_MALE else s_FEMALE) (if (p1 &&& (1 : Int32)) = (0 : Int32) then s_MALE else s_FEMALE) p2 p2 T22.heap n0 Z22 f67 f68 f68 f69 f69) hZ (hw _ (List.mem_of_getElem? (i := 20) rfl)) (hw _ (List.mem_of_getElem? (i := 5) rfl)) (by decide) (by decide)) q66a q66c (g := (mkF m 187 #[.val (.int p1), .val (.int p2), .val (.int p3), .val (.int p4), .val (.int p5), .val (.ref (if (p1 &&& (1 : Int32)) = (0 : Int32) then s_MALE else s_FEMALE)), .val (.ref (if (p3 &&& (1 : Int32)) = (0 : Int32) then s_MALE else s_FEMALE)), .val (.int (if (p5 &&& (1 : Int32)) = (0 : Int32) then p4 else p2)), .val (.ref b19), .val (.ref b21), .val (.int (((p5.toUInt32 >>> ((1 : Int32) &&& 31).toUInt32).toInt32) &&& (3 : Int32))), .unset] [(.ref b19), (.ref b19)])) rfl (by rw [hml]; rfl) (Steps.refl _) (argsL := [(.ref b19)]) (rest := []) (lenOf pd_0_1 rfl) rfl (by show 2 * 0 + _ ≤ _; exact Nat.le_of_eq rfl) (hb hby at_187) (fun _ _ => ⟨rfl, rfl, (by decide : 2 + 0 ≤ _), (by decide : 4 + 0 ≤ _)⟩)
        dsimp only [Pt.U, Pt.locs, Pt.cells, Pt.slots] at X66 l66 y66 z66 st66 hQ66
        subst l66 y66 z66
        obtain ⟨rfl, N66q, e66⟩ := hQ66
        have N66 := Fr.app N22 N66q
        obtain ⟨fs, hr, hrun, hended, hW, hsame⟩ := X66.leave (v := some (.int (nar .boolean (own_f3 (if (p1 &&& (1 : Int32)) = (0 : Int32) then s_MALE else s_FEMALE) (if (p1 &&& (1 : Int32)) = (0 : Int32) then s_MALE else s_FEMALE) p2 p2)))) (fun h => by rw [Bd.returns] at h; cases h)
        refine ⟨_, _, pr45 _ ?_, hrun, hended, _, _, rfl, ?_, ⟨_, rfl⟩, hW, hsame.mono (by decide) (by decide)⟩
        · show Steps p.tables e below (T22.setTop (mkF m 162 #[.val (.int p1), .val (.int p2), .val (.int p3), .val (.int p4), .val (.int p5), .val (.ref (if (p1 &&& (1 : Int32)) = (0 : Int32) then s_MALE else s_FEMALE)), .val (.ref (if (p3 &&& (1 : Int32)) = (0 : Int32) then s_MALE else s_FEMALE)), .val (.int (if (p5 &&& (1 : Int32)) = (0 : Int32) then p4 else p2)), .val (.ref b19), .val (.ref b21), .val (.int (((p5.toUInt32 >>> ((1 : Int32) &&& 31).toUInt32).toInt32) &&& (3 : Int32))), .unset] [(.int (2 : Int32)), (.int (((p5.toUInt32 >>> ((1 : Int32) &&& 31).toUInt32).toInt32) &&& (3 : Int32)))])) _
          refine XS.icmpYes X22.here hx rfl (pc0 := 162) (pc' := 183) rfl (hb hby at_162) rfl (feq hc44).2 (by decide) (by decide) ?_
          show Steps p.tables e below (T22.setTop (mkF m 183 #[.val (.int p1), .val (.int p2), .val (.int p3), .val (.int p4), .val (.int p5), .val (.ref (if (p1 &&& (1 : Int32)) = (0 : Int32) then s_MALE else s_FEMALE)), .val (.ref (if (p3 &&& (1 : Int32)) = (0 : Int32) then s_MALE else s_FEMALE)), .val (.int (if (p5 &&& (1 : Int32)) = (0 : Int32) then p4 else p2)), .val (.ref b19), .val (.ref b21), .val (.int (((p5.toUInt32 >>> ((1 : Int32) &&& 31).toUInt32).toInt32) &&& (3 : Int32))), .unset] [])) _
          refine XS.aload X22.here hx rfl (hb hby at_183) rfl rfl ?_
          show Steps p.tables e below (T22.setTop (mkF m 185 #[.val (.int p1), .val (.int p2), .val (.int p3), .val (.int p4), .val (.int p5), .val (.ref (if (p1 &&& (1 : Int32)) = (0 : Int32) then s_MALE else s_FEMALE)), .val (.ref (if (p3 &&& (1 : Int32)) = (0 : Int32) then s_MALE else s_FEMALE)), .val (.int (if (p5 &&& (1 : Int32)) = (0 : Int32) then p4 else p2)), .val (.ref b19), .val (.ref b21), .val (.int (((p5.toUInt32 >>> ((1 : Int32) &&& 31).toUInt32).toInt32) &&& (3 : Int32))), .unset] [(.ref b19)])) _
          refine XS.aload X22.here hx rfl (hb hby at_185) rfl rfl ?_
          show Steps p.tables e below (T22.setTop (mkF m 187 #[.val (.int p1), .val (.int p2), .val (.int p3), .val (.int p4), .val (.int p5), .val (.ref (if (p1 &&& (1 : Int32)) = (0 : Int32) then s_MALE else s_FEMALE)), .val (.ref (if (p3 &&& (1 : Int32)) = (0 : Int32) then s_MALE else s_FEMALE)), .val (.int (if (p5 &&& (1 : Int32)) = (0 : Int32) then p4 else p2)), .val (.ref b19), .val (.ref b21), .val (.int (((p5.toUInt32 >>> ((1 : Int32) &&& 31).toUInt32).toInt32) &&& (3 : Int32))), .unset] [(.ref b19), (.ref b19)])) _
          refine st66.trans ?_
          show Steps p.tables e below (T66.setTop (mkF m 190 #[.val (.int p1), .val (.int p2), .val (.int p3), .val (.int p4), .val (.int p5), .val (.ref (if (p1 &&& (1 : Int32)) = (0 : Int32) then s_MALE else s_FEMALE)), .val (.ref (if (p3 &&& (1 : Int32)) = (0 : Int32) then s_MALE else s_FEMALE)), .val (.int (if (p5 &&& (1 : Int32)) = (0 : Int32) then p4 else p2)), .val (.ref b19), .val (.ref b21), .val (.int (((p5.toUInt32 >>> ((1 : Int32) &&& 31).toUInt32).toInt32) &&& (3 : Int32))), .unset] [(.int (own_f3 (if (p1 &&& (1 : Int32)) = (0 : Int32) then s_MALE else s_FEMALE) (if (p1 &&& (1 : Int32)) = (0 : Int32) then s_MALE else s_FEMALE) p2 p2))])) _
          exact retN X66 hx (t := .boolean) Bd.returns (by simp) (hb hby at_190) hr
        · show Q0 Z p1 p2 p3 p4 p5 cl_cache s_MALE s_FEMALE wel s_cache h0 n0 _ T66.heap _
          rw [e66]
          exact ⟨(by rw [show (nar .boolean (own_f3 (if (p1 &&& (1 : Int32)) = (0 : Int32) then s_MALE else s_FEMALE) (if (p1 &&& (1 : Int32)) = (0 : Int32) then s_MALE else s_FEMALE) p2 p2)) = (1 : Int32) from by unfold own_f3; rw [if_pos rfl, if_pos rfl]; rfl]), N66⟩
set_option maxRecDepth 65536 in
set_option maxHeartbeats 40000000 in
theorem comes_1 {Post : Tables → Env → Array Value → State → Outcome → State → Prop} (hpost : ∀ tb e args s v u, (limb_1_1.after args s (.returned v) u = true ∧ limb_1_2.after args s (.returned v) u = true ∧ True) → FrameEnd s (.returned v) u (Jvm.fieldLocs frame_1_writes args s ++ Jvm.arrayLocs frame_1_arrays args s ++ Jvm.staticLocs frame_1_statics s) 16 128 → Post tb e args s (.returned v) u) :
    ArmFor flags0 classFile x code maxLocals ret World_1 tables_1 room_1 Calls_1 rest_1 Pre_1 Post := by
  intro l hfl _ _ p e ha hc hk s m args below hf hA hF happ hP
  obtain ⟨hcalls, hrest, hpre⟩ := hP
  obtain ⟨-, -, -, hnamed, -, -, -, hat⟩ := (Spec.applies_iff hf).mp happ
  obtain ⟨hg, hn⟩ := and_e (Cond.before_iff.mp (show (Jvm.Cond.and given_1 narrow_1).before args s = true from hpre))
  obtain ⟨c1, c2⟩ := and_e hg
  obtain ⟨c3, c4⟩ := and_e c2
  obtain ⟨c5, c6⟩ := and_e c4
  obtain ⟨c7, c8⟩ := and_e c6
  obtain ⟨c9, c10⟩ := and_e c8
  obtain ⟨w0, w1, w2, w3, w4, rfl⟩ : ∃ w0 w1 w2 w3 w4 : Value, args = #[w0, w1, w2, w3, w4] := by
    have hs : args.size = 5 := by simpa [Cond.value, given_1] using c1
    obtain ⟨L⟩ := args
    match L, hs with
    | [w0, w1, w2, w3, w4], _ => exact ⟨w0, w1, w2, w3, w4, rfl⟩
  have hw := fun d (hd : d ∈ tables_1) => atoms_spec (ws := Jvm.Cond.code x code maxLocals ret :: tables_1) hat d (List.mem_cons_of_mem _ hd)
  have hfit : Fit s := fun {y c} hc i hi => by
    obtain ⟨ha, rfl⟩ := Array.getElem?_eq_some_iff.mp hc
    have q := List.all_eq_true.mp ((Array.all_eq_true_iff_forall_mem.mp hF) _ (Array.getElem_mem ha)) i (List.mem_range.mpr hi)
    simpa [Array.getElem?_eq_getElem hi] using q
  obtain ⟨hsets, hown0⟩ := atoms_of _ (rest_1_c_eq ▸ (show rest_1_c.before _ s = true from hrest))
  obtain ⟨i0, ei0⟩ := is_v c3
  obtain rfl : w0 = (.int i0) := Option.some.inj ei0
  obtain ⟨i1, ei1⟩ := is_v c5
  obtain rfl : w1 = (.int i1) := Option.some.inj ei1
  obtain ⟨i2, ei2⟩ := is_v c7
  obtain rfl : w2 = (.int i2) := Option.some.inj ei2
  obtain ⟨i3, ei3⟩ := is_v c9
  obtain rfl : w3 = (.int i3) := Option.some.inj ei3
  obtain ⟨i4, ei4⟩ := is_v c10
  obtain rfl : w4 = (.int i4) := Option.some.inj ei4
  obtain ⟨c11, c12⟩ := and_e hn
  obtain ⟨c13, c14⟩ := and_e c12
  obtain ⟨c15, c16⟩ := and_e c14
  obtain ⟨s_MALE, ev_MALE⟩ := exa_v c11
  have E_MALE := Exa.start ev_MALE c11
  have S_MALE := Sta.start ev_MALE (Or.inr ⟨(hw _ (List.mem_of_getElem? (i := 1) rfl)), (hw _ (List.mem_of_getElem? (i := 2) rfl))⟩)
  obtain ⟨s_FEMALE, ev_FEMALE⟩ := exa_v c13
  have E_FEMALE := Exa.start ev_FEMALE c13
  have S_FEMALE := Sta.start ev_FEMALE (Or.inr ⟨(hw _ (List.mem_of_getElem? (i := 1) rfl)), (hw _ (List.mem_of_getElem? (i := 24) rfl))⟩)
  have F_MALE_ordinal := own_fldI ev_MALE c15
  have F_FEMALE_ordinal := own_fldI ev_FEMALE c16
  have ne_sex : ¬ (s_MALE = s_FEMALE) := Fld.ne F_MALE_ordinal F_FEMALE_ordinal (by decide)
  have ev_high := own_eqI (Cond.before_iff.mp (hsets _ (List.mem_of_getElem? (i := 3) rfl)))
  have S_high := Sta.start ev_high (Or.inr ⟨(hw _ (List.mem_of_getElem? (i := 30) rfl)), (hsets _ (List.mem_of_getElem? (i := 0) rfl))⟩)
  have hArr := Cond.before_iff.mp (hsets _ (List.mem_of_getElem? (i := 4) rfl))
  obtain ⟨s_cache, ev_cache⟩ := arr_v hArr
  obtain ⟨cl_cache, Ar_s_cache⟩ := Arr.start ev_cache hArr
  have S_cache := Sta.start ev_cache (Or.inr ⟨(hw _ (List.mem_of_getElem? (i := 30) rfl)), (hsets _ (List.mem_of_getElem? (i := 2) rfl))⟩)
  obtain ⟨lt_c, ln_c⟩ := own_len ev_cache Ar_s_cache (Cond.before_iff.mp (hsets _ (List.mem_of_getElem? (i := 6) rfl)))
  have sz_c : cl_cache.slots.size = 256 := own_sz256 lt_c ln_c
  have els := own_elems ev_cache Ar_s_cache lt_c (Cond.before_iff.mp (hsets _ (List.mem_of_getElem? (i := 7) rfl)))
  have key : ∃ wel : Addr, (¬ (i1 < (-128 : Int32)) → ¬ ((127 : Int32) < i1) → Exa s s.heap wel "java/lang/Integer") ∧ (¬ (i1 < (-128 : Int32)) → ¬ ((127 : Int32) < i1) → ¬ ((i1 + (128 : Int32)) < 0 ∨ cl_cache.slots.size ≤ ((i1 + (128 : Int32))).toNatClampNeg)) ∧ (¬ (i1 < (-128 : Int32)) → ¬ ((127 : Int32) < i1) → cl_cache.slots[((i1 + (128 : Int32))).toNatClampNeg]? = some (.ref wel)) := by
    by_cases hr : ¬ (i1 < (-128 : Int32)) ∧ ¬ ((127 : Int32) < i1)
    · have hj := own_range i1 hr.1 hr.2
      obtain ⟨w, g1, g2⟩ := els _ (by rw [sz_c]; exact hj.2)
      exact ⟨w, fun _ _ => g2, fun _ _ => (by rw [sz_c]; exact fun q => q.elim hj.1 (Nat.not_le.mpr hj.2)), fun _ _ => g1⟩
    · exact ⟨0, fun a b => absurd ⟨a, b⟩ hr, fun a b => absurd ⟨a, b⟩ hr, fun a b => absurd ⟨a, b⟩ hr⟩
  obtain ⟨wel, E_wel, hc_hin21, hc_hat21⟩ := key
  have hq_3i_hno : own_No s "java/lang/Integer" "com/example/vestbook/vestbook/engine/Life" := own_noChain (hw _ (List.mem_of_getElem? (i := 32) rfl)) (hw _ (List.mem_of_getElem? (i := 33) rfl)) (hw _ (List.mem_of_getElem? (i := 34) rfl)) (hw _ (List.mem_of_getElem? (i := 4) rfl)) (by decide) (by decide) (by decide)
  have hq117_1 : ((((i4.toUInt32 >>> ((1 : Int32) &&& 31).toUInt32).toInt32) &&& (3 : Int32)) = (0 : Int32)) → ((i0 &&& (1 : Int32)) = (i2 &&& (1 : Int32))) → (own_f3 (if (i0 &&& (1 : Int32)) = (0 : Int32) then s_MALE else s_FEMALE) (if (i2 &&& (1 : Int32)) = (0 : Int32) then s_MALE else s_FEMALE) i1 (if (i4 &&& (1 : Int32)) = (0 : Int32) then i3 else i1)) = (if i1 = (if (i4 &&& (1 : Int32)) = (0 : Int32) then i3 else i1) then (1 : Int32) else (0 : Int32)) := by intro _ h; unfold own_f3; rw [h, if_pos rfl]
  have hq129_2 : ((((i4.toUInt32 >>> ((1 : Int32) &&& 31).toUInt32).toInt32) &&& (3 : Int32)) = (0 : Int32)) → ((i0 &&& (1 : Int32)) = (i2 &&& (1 : Int32))) → (own_f3 (if (i2 &&& (1 : Int32)) = (0 : Int32) then s_MALE else s_FEMALE) (if (i0 &&& (1 : Int32)) = (0 : Int32) then s_MALE else s_FEMALE) (if (i4 &&& (1 : Int32)) = (0 : Int32) then i3 else i1) i1) = (if i1 = (if (i4 &&& (1 : Int32)) = (0 : Int32) then i3 else i1) then (1 : Int32) else (0 : Int32)) := by intro _ h; unfold own_f3; rw [h, if_pos rfl, own_comm]
  have hq117_3 : ((((i4.toUInt32 >>> ((1 : Int32) &&& 31).toUInt32).toInt32) &&& (3 : Int32)) = (0 : Int32)) → (¬ ((i0 &&& (1 : Int32)) = (i2 &&& (1 : Int32)))) → (own_f3 (if (i0 &&& (1 : Int32)) = (0 : Int32) then s_MALE else s_FEMALE) (if (i2 &&& (1 : Int32)) = (0 : Int32) then s_MALE else s_FEMALE) i1 (if (i4 &&& (1 : Int32)) = (0 : Int32) then i3 else i1)) = (0 : Int32) := by intro _ h; unfold own_f3; rw [if_neg (own_sex i0 i2 _ _ ne_sex h)]
  have hq129_4 : ((((i4.toUInt32 >>> ((1 : Int32) &&& 31).toUInt32).toInt32) &&& (3 : Int32)) = (0 : Int32)) → (¬ ((i0 &&& (1 : Int32)) = (i2 &&& (1 : Int32)))) → (own_f3 (if (i2 &&& (1 : Int32)) = (0 : Int32) then s_MALE else s_FEMALE) (if (i0 &&& (1 : Int32)) = (0 : Int32) then s_MALE else s_FEMALE) (if (i4 &&& (1 : Int32)) = (0 : Int32) then i3 else i1) i1) = (0 : Int32) := by intro _ h; unfold own_f3; rw [if_neg (own_sex i2 i0 _ _ ne_sex (fun q => h q.symm))]
  obtain ⟨n, o, h1, h2, h3, _, L, rfl, ⟨rfl, N⟩, hq⟩ := rm0 l s _ hw tables_1 i0 i1 i2 i3 i4 cl_cache s_MALE s_FEMALE wel s_cache s.heap s.heap.size (Nat.le_refl _) S_MALE S_FEMALE hq117_1 hq129_2 hq117_3 hq129_4 hq_3i_hno S_high E_wel Ar_s_cache S_cache hc_hin21 hc_hat21 p e ha hc hk s m _ below hf ((Spec.applies_iff_loose hf).mp happ).1 ⟨rfl, State.Warmed39.refl s, rfl⟩ trivial
  refine ⟨n, _, h1, h2, h3, hpost _ _ _ _ _ _ ⟨Cond.after_iff.mpr rfl, Cond.after_iff.mpr (eq_i res_at (Term.int_eval (1)) rfl), trivial⟩ ⟨hq.1, hq.2.1, (hq.2.2.sift fun y hy => Or.inr (N y hy)).mono (by decide) (by decide)⟩⟩
theorem main_1_1 : Claimed_1_1 := comes_1 fun _ _ _ _ _ _ h hF => ⟨h.1, hF⟩
theorem main_1_2 : Claimed_1_2 := comes_1 fun _ _ _ _ _ _ h hF => ⟨h.2.1, hF⟩
end Jvm.Pilot.@@N@@
namespace Jvm.Pilot.@@N@@
open Jvm Jvm.ClassFile Sem Op Lib Jvm.Free Jvm.Stand Jvm.Pilot.@@N@@.Jvm.D
/-! MADE BY PROGRAM (witnessworld.py) out of the Statement's table words and the real class files: 18 classes; the members and pool entries that the words name. The judged class is class 1, her method 1. -/
namespace start1
open Jvm.ClassFile
def u (s : String) : CpInfo := .utf8 (stringToUtf16 s)
/-- a pool by its gaps: so many unusable entries, then the entry; so many at the end -/
def gap : Nat → List CpInfo → List CpInfo
  | 0, r => r
  | n + 1, r => .unusable :: gap n r
def poolList (es : List (Nat × CpInfo)) (last : Nat) : List CpInfo := es.foldr (fun e r => gap e.1 (e.2 :: r)) (gap last [])
def pool (es : List (Nat × CpInfo)) (last : Nat) : Array CpInfo := ⟨poolList es last⟩
def fileOf (pool : Array CpInfo) (this : Nat) (attrs : Array Attribute := #[]) (ms : Array MethodInfo := #[]) (fl : Nat := 33) (sup : Nat := 0) (ifs : Array Nat := #[]) (fds : Array FieldInfo := #[]) : ClassFile where
  minorVersion := 0
  majorVersion := 65
  constantPool := pool
  accessFlags := fl
  thisClass := this
  superClass := sup
  interfaces := ifs
  fields := fds
  methods := ms
  attributes := attrs
def plain (name : String) (sup : Option ClassId) : Class where
  name := name
  kind := .ordinary
  loader := none
  accessFlags := 33
  super := sup
  interfaces := #[]
  cf := none
  fields := #[]
  methods := #[]
  instanceTypes := #[]
  staticTypes := #[]
  resolved := #[]
  callSites := []
  init := .initialized
  statics := none
  mirror := none

def pool0 : Array CpInfo := pool [(5, u "<init>"), (0, u "()V"), (1, .class_ 10), (1, u "java/lang/Object")] 113

def k0c0 : Code := { maxStack := 0, maxLocals := 1, code := object_method_1_code, exceptionTable := #[], attributes := #[] }
def k0m0 : Method := { name := "<init>", desc := "()V", sig := { parameters := [], returnType := none }, accessFlags := 1, code := some k0c0 }
/-- java/lang/Object -/
def k0 : Class := { plain "java/lang/Object" none with
  accessFlags := 33
  interfaces := #[]
  cf := some (fileOf pool0 8 #[] #[{ accessFlags := 1, nameIndex := 5, descriptorIndex := 6, attributes := #[] }] 33 0 #[] #[])
  fields := #[]
  methods := #[k0m0]
  instanceTypes := #[]
  staticTypes := #[]
  resolved := Array.replicate 124 none
  statics := none }

def pool1 : Array CpInfo := pool [(2, .class_ 4), (1, u "java/lang/Object"), (0, u "<init>"), (0, u "()V"), (0, .fieldref 8 9), (0, .class_ 10), (0, .nameAndType 11 12), (0, u "com/example/vestbook/vestbook/engine/Sex"), (0, u "MALE"), (0, u "Lcom/example/vestbook/vestbook/engine/Sex;"), (0, .fieldref 8 14), (0, .nameAndType 15 12), (0, u "FEMALE"), (0, .class_ 17), (0, u "com/example/vestbook/vestbook/engine/Life"), (0, .methodref 16 19), (0, .nameAndType 5 20), (0, u "(Lcom/example/vestbook/vestbook/engine/Sex;I)V"), (0, .methodref 16 22), (0, .nameAndType 23 24), (0, u "equals"), (0, u "(Ljava/lang/Object;)Z"), (0, .methodref 26 27), (0, .class_ 28), (0, .nameAndType 29 30), (0, u "java/lang/Integer"), (0, u "valueOf"), (0, u "(I)Ljava/lang/Integer;"), (0, .class_ 32), (0, u "com/example/vestbook/vestbook/engine/LifeEqualsPinLaw"), (2, u "law"), (0, u "(IIIII)Z")] 3

def k1m0 : Method := { name := "<init>", desc := "()V", sig := { parameters := [], returnType := none }, accessFlags := 1, code := none }
def k1c1 : Code := { maxStack := 4, maxLocals := 12, code := code, exceptionTable := #[], attributes := #[] }
def k1m1 : Method := { name := "law", desc := "(IIIII)Z", sig := { parameters := [.int, .int, .int, .int, .int], returnType := some .boolean }, accessFlags := 9, code := some k1c1 }
/-- com/example/vestbook/vestbook/engine/LifeEqualsPinLaw -/
def k1 : Class := { plain "com/example/vestbook/vestbook/engine/LifeEqualsPinLaw" (some 0) with
  accessFlags := 49
  interfaces := #[]
  cf := some (fileOf pool1 31 #[] #[{ accessFlags := 1, nameIndex := 5, descriptorIndex := 6, attributes := #[] }, { accessFlags := 9, nameIndex := 35, descriptorIndex := 36, attributes := #[] }] 49 2 #[] #[])
  fields := #[]
  methods := #[k1m0, k1m1]
  instanceTypes := #[]
  staticTypes := #[]
  resolved := Array.replicate 40 none
  statics := none }

def pool2 : Array CpInfo := pool [(1, .class_ 2), (0, u "java/lang/constant/Constable"), (0, .class_ 4), (0, u "java/lang/Object")] 6

/-- java/lang/constant/Constable -/
def k2 : Class := { plain "java/lang/constant/Constable" (some 0) with
  accessFlags := 1537
  interfaces := #[]
  cf := some (fileOf pool2 1 #[] #[] 1537 3 #[] #[])
  fields := #[]
  methods := #[]
  instanceTypes := #[]
  staticTypes := #[]
  resolved := Array.replicate 11 none
  statics := none }

def pool3 : Array CpInfo := pool [(1, .class_ 2), (0, u "java/lang/Comparable"), (0, .class_ 4), (0, u "java/lang/Object")] 7

/-- java/lang/Comparable -/
def k3 : Class := { plain "java/lang/Comparable" (some 0) with
  accessFlags := 1537
  interfaces := #[]
  cf := some (fileOf pool3 1 #[] #[] 1537 3 #[] #[])
  fields := #[]
  methods := #[]
  instanceTypes := #[]
  staticTypes := #[]
  resolved := Array.replicate 12 none
  statics := none }

def pool4 : Array CpInfo := pool [(1, .class_ 2), (0, u "java/io/Serializable"), (0, .class_ 4), (0, u "java/lang/Object")] 2

/-- java/io/Serializable -/
def k4 : Class := { plain "java/io/Serializable" (some 0) with
  accessFlags := 1537
  interfaces := #[]
  cf := some (fileOf pool4 1 #[] #[] 1537 3 #[] #[])
  fields := #[]
  methods := #[]
  instanceTypes := #[]
  staticTypes := #[]
  resolved := Array.replicate 7 none
  statics := none }

def pool5 : Array CpInfo := pool [(2, .class_ 4), (1, u "java/lang/Enum"), (0, u "name"), (0, u "Ljava/lang/String;"), (2, u "ordinal"), (0, u "I"), (1, .class_ 14), (1, u "java/lang/Object"), (4, u "hash"), (86, .class_ 108), (1, u "java/lang/Enum$EnumDesc"), (2, .class_ 112), (0, u "java/lang/constant/Constable"), (0, .class_ 114), (0, u "java/lang/Comparable"), (0, .class_ 116), (0, u "java/io/Serializable")] 87

/-- java/lang/Enum -/
def k5 : Class := { plain "java/lang/Enum" (some 0) with
  accessFlags := 1057
  interfaces := #[2, 3, 4]
  cf := some (fileOf pool5 2 #[.nestMembers #[106]] #[] 1057 12 #[111, 113, 115] #[{ accessFlags := 18, nameIndex := 5, descriptorIndex := 6, attributes := #[] }, { accessFlags := 18, nameIndex := 9, descriptorIndex := 10, attributes := #[] }, { accessFlags := 2, nameIndex := 19, descriptorIndex := 10, attributes := #[] }])
  fields := #[{ name := "name", type := (.object "java/lang/String"), accessFlags := 18, slot := 0, constantValue := 0 }, { name := "ordinal", type := .int, accessFlags := 18, slot := 1, constantValue := 0 }, { name := "hash", type := .int, accessFlags := 2, slot := 2, constantValue := 0 }]
  methods := #[]
  instanceTypes := #[(.object "java/lang/String"), .int, .int]
  staticTypes := #[]
  resolved := Array.replicate 204 none
  statics := none }

def pool6 : Array CpInfo := pool [(1, .class_ 2), (0, u "com/example/vestbook/vestbook/engine/Sex"), (2, u "MALE"), (0, u "Lcom/example/vestbook/vestbook/engine/Sex;"), (2, u "FEMALE"), (2, u "$VALUES"), (0, u "[Lcom/example/vestbook/vestbook/engine/Sex;"), (6, .class_ 22), (1, u "java/lang/Enum")] 24

/-- com/example/vestbook/vestbook/engine/Sex -/
def k6 : Class := { plain "com/example/vestbook/vestbook/engine/Sex" (some 5) with
  accessFlags := 16433
  interfaces := #[]
  cf := some (fileOf pool6 1 #[] #[] 16433 20 #[] #[{ accessFlags := 16409, nameIndex := 5, descriptorIndex := 6, attributes := #[] }, { accessFlags := 16409, nameIndex := 9, descriptorIndex := 6, attributes := #[] }, { accessFlags := 4122, nameIndex := 12, descriptorIndex := 13, attributes := #[] }])
  fields := #[{ name := "MALE", type := (.object "com/example/vestbook/vestbook/engine/Sex"), accessFlags := 16409, slot := 0, constantValue := 0 }, { name := "FEMALE", type := (.object "com/example/vestbook/vestbook/engine/Sex"), accessFlags := 16409, slot := 1, constantValue := 0 }, { name := "$VALUES", type := (.array (.object "com/example/vestbook/vestbook/engine/Sex")), accessFlags := 4122, slot := 2, constantValue := 0 }]
  methods := #[]
  instanceTypes := #[(.object "java/lang/String"), .int, .int]
  staticTypes := #[(.object "com/example/vestbook/vestbook/engine/Sex"), (.object "com/example/vestbook/vestbook/engine/Sex"), (.array (.object "com/example/vestbook/vestbook/engine/Sex"))]
  resolved := Array.replicate 47 none
  statics := some 0 }

def pool7 : Array CpInfo := pool [(1, .methodref 2 3), (0, .class_ 4), (0, .nameAndType 5 6), (0, u "java/lang/Object"), (0, u "<init>"), (0, u "()V"), (0, .fieldref 8 9), (0, .class_ 10), (0, .nameAndType 11 12), (0, u "com/example/vestbook/vestbook/engine/Life"), (0, u "sex"), (0, u "Lcom/example/vestbook/vestbook/engine/Sex;"), (0, .fieldref 8 14), (0, .nameAndType 15 16), (0, u "age"), (0, u "I"), (6, u "(Lcom/example/vestbook/vestbook/engine/Sex;I)V"), (3, u "equals"), (0, u "(Ljava/lang/Object;)Z")] 4

def k7c0 : Code := { maxStack := 2, maxLocals := 3, code := prog_55_method_1_code, exceptionTable := #[], attributes := #[] }
def k7m0 : Method := { name := "<init>", desc := "(Lcom/example/vestbook/vestbook/engine/Sex;I)V", sig := { parameters := [(.object "com/example/vestbook/vestbook/engine/Sex"), .int], returnType := none }, accessFlags := 0, code := some k7c0 }
def k7c1 : Code := { maxStack := 2, maxLocals := 3, code := prog_55_method_4_code, exceptionTable := #[], attributes := #[] }
def k7m1 : Method := { name := "equals", desc := "(Ljava/lang/Object;)Z", sig := { parameters := [(.object "java/lang/Object")], returnType := some .boolean }, accessFlags := 1, code := some k7c1 }
/-- com/example/vestbook/vestbook/engine/Life -/
def k7 : Class := { plain "com/example/vestbook/vestbook/engine/Life" (some 0) with
  accessFlags := 48
  interfaces := #[]
  cf := some (fileOf pool7 8 #[] #[{ accessFlags := 0, nameIndex := 5, descriptorIndex := 23, attributes := #[] }, { accessFlags := 1, nameIndex := 27, descriptorIndex := 28, attributes := #[] }] 48 2 #[] #[{ accessFlags := 18, nameIndex := 11, descriptorIndex := 12, attributes := #[] }, { accessFlags := 18, nameIndex := 15, descriptorIndex := 16, attributes := #[] }])
  fields := #[{ name := "sex", type := (.object "com/example/vestbook/vestbook/engine/Sex"), accessFlags := 18, slot := 0, constantValue := 0 }, { name := "age", type := .int, accessFlags := 18, slot := 1, constantValue := 0 }]
  methods := #[k7m0, k7m1]
  instanceTypes := #[(.object "com/example/vestbook/vestbook/engine/Sex"), .int]
  staticTypes := #[]
  resolved := Array.replicate 33 none
  statics := none }

def pool8 : Array CpInfo := pool [(1, .methodref 2 3), (0, .class_ 4), (0, .nameAndType 5 6), (0, u "java/lang/Object"), (0, u "<init>"), (0, u "()V"), (1, .class_ 10), (1, u "java/lang/Number"), (2, .class_ 14), (0, u "java/io/Serializable"), (0, u "serialVersionUID"), (0, u "J")] 20

def k8c0 : Code := { maxStack := 1, maxLocals := 1, code := jdk_18_method_1_code, exceptionTable := #[], attributes := #[] }
def k8m0 : Method := { name := "<init>", desc := "()V", sig := { parameters := [], returnType := none }, accessFlags := 1, code := some k8c0 }
/-- java/lang/Number -/
def k8 : Class := { plain "java/lang/Number" (some 0) with
  accessFlags := 1057
  interfaces := #[4]
  cf := some (fileOf pool8 8 #[] #[{ accessFlags := 1, nameIndex := 5, descriptorIndex := 6, attributes := #[] }] 1057 2 #[13] #[{ accessFlags := 26, nameIndex := 15, descriptorIndex := 16, attributes := #[] }])
  fields := #[{ name := "serialVersionUID", type := .long, accessFlags := 26, slot := 0, constantValue := 0 }]
  methods := #[k8m0]
  instanceTypes := #[]
  staticTypes := #[.long]
  resolved := Array.replicate 37 none
  statics := none }

def pool9 : Array CpInfo := pool [(1, .class_ 2), (0, u "java/lang/constant/ConstantDesc"), (0, .class_ 4), (0, u "java/lang/Object")] 32

/-- java/lang/constant/ConstantDesc -/
def k9 : Class := { plain "java/lang/constant/ConstantDesc" (some 0) with
  accessFlags := 1537
  interfaces := #[]
  cf := some (fileOf pool9 1 #[] #[] 1537 3 #[] #[])
  fields := #[]
  methods := #[]
  instanceTypes := #[]
  staticTypes := #[]
  resolved := Array.replicate 37 none
  statics := none }

def pool10 : Array CpInfo := pool [(1, .class_ 2), (0, u "java/lang/Integer"), (16, u "digits"), (0, u "[C"), (46, u "<init>"), (17, u "DigitOnes"), (0, u "[B"), (2, u "DigitTens"), (10, .nameAndType 67 101), (0, u "()V"), (85, u "valueOf"), (0, u "(I)Ljava/lang/Integer;"), (0, .class_ 190), (0, u "java/lang/Integer$IntegerCache"), (0, .fieldref 189 192), (0, .nameAndType 193 194), (0, u "high"), (0, u "I"), (0, .fieldref 189 196), (0, .nameAndType 197 198), (0, u "cache"), (0, u "[Ljava/lang/Integer;"), (0, .methodref 1 200), (0, .nameAndType 67 201), (0, u "(I)V"), (0, .methodref 203 100), (0, .class_ 204), (0, u "java/lang/Number"), (0, .fieldref 1 206), (0, .nameAndType 207 194), (0, u "value"), (94, u "TYPE"), (0, u "Ljava/lang/Class;"), (0, .class_ 305), (0, u "java/lang/Comparable"), (0, .class_ 307), (0, u "java/lang/constant/Constable"), (0, .class_ 309), (0, u "java/lang/constant/ConstantDesc"), (0, u "MIN_VALUE"), (1, u "MAX_VALUE"), (3, u "SIZE"), (1, u "BYTES"), (1, u "serialVersionUID"), (0, u "J")] 131

def k10c0 : Code := { maxStack := 3, maxLocals := 1, code := jdk_33_method_22_code, exceptionTable := #[], attributes := #[] }
def k10m0 : Method := { name := "valueOf", desc := "(I)Ljava/lang/Integer;", sig := { parameters := [.int], returnType := some (.object "java/lang/Integer") }, accessFlags := 9, code := some k10c0 }
def k10c1 : Code := { maxStack := 2, maxLocals := 2, code := jdk_33_method_23_code, exceptionTable := #[], attributes := #[] }
def k10m1 : Method := { name := "<init>", desc := "(I)V", sig := { parameters := [.int], returnType := none }, accessFlags := 1, code := some k10c1 }
/-- java/lang/Integer -/
def k10 : Class := { plain "java/lang/Integer" (some 8) with
  accessFlags := 49
  interfaces := #[3, 2, 9]
  cf := some (fileOf pool10 1 #[.nestMembers #[189]] #[{ accessFlags := 9, nameIndex := 187, descriptorIndex := 188, attributes := #[] }, { accessFlags := 1, nameIndex := 67, descriptorIndex := 201, attributes := #[] }] 49 203 #[304, 306, 308] #[{ accessFlags := 25, nameIndex := 310, descriptorIndex := 194, attributes := #[] }, { accessFlags := 25, nameIndex := 312, descriptorIndex := 194, attributes := #[] }, { accessFlags := 25, nameIndex := 302, descriptorIndex := 303, attributes := #[] }, { accessFlags := 24, nameIndex := 19, descriptorIndex := 20, attributes := #[] }, { accessFlags := 24, nameIndex := 89, descriptorIndex := 86, attributes := #[] }, { accessFlags := 24, nameIndex := 85, descriptorIndex := 86, attributes := #[] }, { accessFlags := 18, nameIndex := 207, descriptorIndex := 194, attributes := #[] }, { accessFlags := 25, nameIndex := 316, descriptorIndex := 194, attributes := #[] }, { accessFlags := 25, nameIndex := 318, descriptorIndex := 194, attributes := #[] }, { accessFlags := 26, nameIndex := 320, descriptorIndex := 321, attributes := #[] }])
  fields := #[{ name := "MIN_VALUE", type := .int, accessFlags := 25, slot := 0, constantValue := 0 }, { name := "MAX_VALUE", type := .int, accessFlags := 25, slot := 1, constantValue := 0 }, { name := "TYPE", type := (.object "java/lang/Class"), accessFlags := 25, slot := 2, constantValue := 0 }, { name := "digits", type := (.array .char), accessFlags := 24, slot := 3, constantValue := 0 }, { name := "DigitTens", type := (.array .byte), accessFlags := 24, slot := 4, constantValue := 0 }, { name := "DigitOnes", type := (.array .byte), accessFlags := 24, slot := 5, constantValue := 0 }, { name := "value", type := .int, accessFlags := 18, slot := 0, constantValue := 0 }, { name := "SIZE", type := .int, accessFlags := 25, slot := 6, constantValue := 0 }, { name := "BYTES", type := .int, accessFlags := 25, slot := 7, constantValue := 0 }, { name := "serialVersionUID", type := .long, accessFlags := 26, slot := 8, constantValue := 0 }]
  methods := #[k10m0, k10m1]
  instanceTypes := #[.int]
  staticTypes := #[.int, .int, (.object "java/lang/Class"), (.array .char), (.array .byte), (.array .byte), .int, .int, .long]
  resolved := Array.replicate 453 none
  statics := none }

def pool11 : Array CpInfo := pool [(2, .class_ 4), (1, u "java/lang/Object"), (0, u "<init>"), (0, u "()V"), (0, .class_ 8), (0, u "java/lang/Integer"), (7, .class_ 18), (1, u "java/lang/Integer$IntegerCache"), (0, u "$assertionsDisabled"), (0, u "Z"), (26, u "high"), (0, u "I"), (8, u "archivedCache"), (0, u "[Ljava/lang/Integer;"), (12, u "cache"), (0, u "low")] 27

def k11m0 : Method := { name := "<init>", desc := "()V", sig := { parameters := [], returnType := none }, accessFlags := 2, code := none }
/-- java/lang/Integer$IntegerCache -/
def k11 : Class := { plain "java/lang/Integer$IntegerCache" (some 0) with
  accessFlags := 48
  interfaces := #[]
  cf := some (fileOf pool11 16 #[.nestHost 7] #[{ accessFlags := 2, nameIndex := 5, descriptorIndex := 6, attributes := #[] }] 48 2 #[] #[{ accessFlags := 24, nameIndex := 72, descriptorIndex := 48, attributes := #[] }, { accessFlags := 24, nameIndex := 47, descriptorIndex := 48, attributes := #[] }, { accessFlags := 24, nameIndex := 71, descriptorIndex := 58, attributes := #[] }, { accessFlags := 8, nameIndex := 57, descriptorIndex := 58, attributes := #[] }, { accessFlags := 4120, nameIndex := 19, descriptorIndex := 20, attributes := #[] }])
  fields := #[{ name := "low", type := .int, accessFlags := 24, slot := 0, constantValue := 0 }, { name := "high", type := .int, accessFlags := 24, slot := 1, constantValue := 0 }, { name := "cache", type := (.array (.object "java/lang/Integer")), accessFlags := 24, slot := 2, constantValue := 0 }, { name := "archivedCache", type := (.array (.object "java/lang/Integer")), accessFlags := 8, slot := 3, constantValue := 0 }, { name := "$assertionsDisabled", type := .boolean, accessFlags := 4120, slot := 4, constantValue := 0 }]
  methods := #[k11m0]
  instanceTypes := #[]
  staticTypes := #[.int, .int, (.array (.object "java/lang/Integer")), (.array (.object "java/lang/Integer")), .boolean]
  resolved := Array.replicate 100 none
  statics := some 1 }

def pool12 : Array CpInfo := pool [(1, u "java/lang/Cloneable"), (0, .class_ 1), (0, u "java/lang/Object"), (0, .class_ 3)] 3

/-- java/lang/Cloneable -/
def k12 : Class := { plain "java/lang/Cloneable" (some 0) with
  accessFlags := 1537
  interfaces := #[]
  cf := some (fileOf pool12 2 #[] #[] 1537 4 #[] #[])
  fields := #[]
  methods := #[]
  instanceTypes := #[]
  staticTypes := #[]
  resolved := Array.replicate 8 none
  statics := none }

/-- the primitive byte -/
def k13 : Class := { plain "byte" none with kind := .primitive 'B', accessFlags := 0x411 }
/-- [B -/
def k14 : Class := { plain "[B" (some 0) with kind := .array 13 .byte, interfaces := #[12, 4], accessFlags := 1041 }

/-- the primitive int -/
def k15 : Class := { plain "int" none with kind := .primitive 'I', accessFlags := 0x411 }
/-- [I -/
def k16 : Class := { plain "[I" (some 0) with kind := .array 15 .int, interfaces := #[12, 4], accessFlags := 1041 }

/-- [Ljava/lang/Integer; -/
def k17 : Class := { plain "[Ljava/lang/Integer;" (some 0) with kind := .array 10 (.object "java/lang/Integer"), interfaces := #[12, 4], accessFlags := 1041 }

def heap : Heap := #[{ cls := 6, slots := #[.ref 3, .ref 4, .null], vm := .statics 6 },
  { cls := 11, slots := #[.int 0, .int 127, .ref 2, .null, .int 0], vm := .statics 11 },
  { cls := 17, slots := #[.ref 5, .ref 6, .ref 7, .ref 8, .ref 9, .ref 10, .ref 11, .ref 12, .ref 13, .ref 14, .ref 15, .ref 16, .ref 17, .ref 18, .ref 19, .ref 20, .ref 21, .ref 22, .ref 23, .ref 24, .ref 25, .ref 26, .ref 27, .ref 28, .ref 29, .ref 30, .ref 31, .ref 32, .ref 33, .ref 34, .ref 35, .ref 36, .ref 37, .ref 38, .ref 39, .ref 40, .ref 41, .ref 42, .ref 43, .ref 44, .ref 45, .ref 46, .ref 47, .ref 48, .ref 49, .ref 50, .ref 51, .ref 52, .ref 53, .ref 54, .ref 55, .ref 56, .ref 57, .ref 58, .ref 59, .ref 60, .ref 61, .ref 62, .ref 63, .ref 64, .ref 65, .ref 66, .ref 67, .ref 68, .ref 69, .ref 70, .ref 71, .ref 72, .ref 73, .ref 74, .ref 75, .ref 76, .ref 77, .ref 78, .ref 79, .ref 80, .ref 81, .ref 82, .ref 83, .ref 84, .ref 85, .ref 86, .ref 87, .ref 88, .ref 89, .ref 90, .ref 91, .ref 92, .ref 93, .ref 94, .ref 95, .ref 96, .ref 97, .ref 98, .ref 99, .ref 100, .ref 101, .ref 102, .ref 103, .ref 104, .ref 105, .ref 106, .ref 107, .ref 108, .ref 109, .ref 110, .ref 111, .ref 112, .ref 113, .ref 114, .ref 115, .ref 116, .ref 117, .ref 118, .ref 119, .ref 120, .ref 121, .ref 122, .ref 123, .ref 124, .ref 125, .ref 126, .ref 127, .ref 128, .ref 129, .ref 130, .ref 131, .ref 132, .ref 133, .ref 134, .ref 135, .ref 136, .ref 137, .ref 138, .ref 139, .ref 140, .ref 141, .ref 142, .ref 143, .ref 144, .ref 145, .ref 146, .ref 147, .ref 148, .ref 149, .ref 150, .ref 151, .ref 152, .ref 153, .ref 154, .ref 155, .ref 156, .ref 157, .ref 158, .ref 159, .ref 160, .ref 161, .ref 162, .ref 163, .ref 164, .ref 165, .ref 166, .ref 167, .ref 168, .ref 169, .ref 170, .ref 171, .ref 172, .ref 173, .ref 174, .ref 175, .ref 176, .ref 177, .ref 178, .ref 179, .ref 180, .ref 181, .ref 182, .ref 183, .ref 184, .ref 185, .ref 186, .ref 187, .ref 188, .ref 189, .ref 190, .ref 191, .ref 192, .ref 193, .ref 194, .ref 195, .ref 196, .ref 197, .ref 198, .ref 199, .ref 200, .ref 201, .ref 202, .ref 203, .ref 204, .ref 205, .ref 206, .ref 207, .ref 208, .ref 209, .ref 210, .ref 211, .ref 212, .ref 213, .ref 214, .ref 215, .ref 216, .ref 217, .ref 218, .ref 219, .ref 220, .ref 221, .ref 222, .ref 223, .ref 224, .ref 225, .ref 226, .ref 227, .ref 228, .ref 229, .ref 230, .ref 231, .ref 232, .ref 233, .ref 234, .ref 235, .ref 236, .ref 237, .ref 238, .ref 239, .ref 240, .ref 241, .ref 242, .ref 243, .ref 244, .ref 245, .ref 246, .ref 247, .ref 248, .ref 249, .ref 250, .ref 251, .ref 252, .ref 253, .ref 254, .ref 255, .ref 256, .ref 257, .ref 258, .ref 259, .ref 260], vm := .none },
  { cls := 6, slots := #[.null, .int 0, .int 0], vm := .none },
  { cls := 6, slots := #[.null, .int 1, .int 0], vm := .none },
  { cls := 10, slots := #[.int (-128)], vm := .none },
  { cls := 10, slots := #[.int (-127)], vm := .none },
  { cls := 10, slots := #[.int (-126)], vm := .none },
  { cls := 10, slots := #[.int (-125)], vm := .none },
  { cls := 10, slots := #[.int (-124)], vm := .none },
  { cls := 10, slots := #[.int (-123)], vm := .none },
  { cls := 10, slots := #[.int (-122)], vm := .none },
  { cls := 10, slots := #[.int (-121)], vm := .none },
  { cls := 10, slots := #[.int (-120)], vm := .none },
  { cls := 10, slots := #[.int (-119)], vm := .none },
  { cls := 10, slots := #[.int (-118)], vm := .none },
  { cls := 10, slots := #[.int (-117)], vm := .none },
  { cls := 10, slots := #[.int (-116)], vm := .none },
  { cls := 10, slots := #[.int (-115)], vm := .none },
  { cls := 10, slots := #[.int (-114)], vm := .none },
  { cls := 10, slots := #[.int (-113)], vm := .none },
  { cls := 10, slots := #[.int (-112)], vm := .none },
  { cls := 10, slots := #[.int (-111)], vm := .none },
  { cls := 10, slots := #[.int (-110)], vm := .none },
  { cls := 10, slots := #[.int (-109)], vm := .none },
  { cls := 10, slots := #[.int (-108)], vm := .none },
  { cls := 10, slots := #[.int (-107)], vm := .none },
  { cls := 10, slots := #[.int (-106)], vm := .none },
  { cls := 10, slots := #[.int (-105)], vm := .none },
  { cls := 10, slots := #[.int (-104)], vm := .none },
  { cls := 10, slots := #[.int (-103)], vm := .none },
  { cls := 10, slots := #[.int (-102)], vm := .none },
  { cls := 10, slots := #[.int (-101)], vm := .none },
  { cls := 10, slots := #[.int (-100)], vm := .none },
  { cls := 10, slots := #[.int (-99)], vm := .none },
  { cls := 10, slots := #[.int (-98)], vm := .none },
  { cls := 10, slots := #[.int (-97)], vm := .none },
  { cls := 10, slots := #[.int (-96)], vm := .none },
  { cls := 10, slots := #[.int (-95)], vm := .none },
  { cls := 10, slots := #[.int (-94)], vm := .none },
  { cls := 10, slots := #[.int (-93)], vm := .none },
  { cls := 10, slots := #[.int (-92)], vm := .none },
  { cls := 10, slots := #[.int (-91)], vm := .none },
  { cls := 10, slots := #[.int (-90)], vm := .none },
  { cls := 10, slots := #[.int (-89)], vm := .none },
  { cls := 10, slots := #[.int (-88)], vm := .none },
  { cls := 10, slots := #[.int (-87)], vm := .none },
  { cls := 10, slots := #[.int (-86)], vm := .none },
  { cls := 10, slots := #[.int (-85)], vm := .none },
  { cls := 10, slots := #[.int (-84)], vm := .none },
  { cls := 10, slots := #[.int (-83)], vm := .none },
  { cls := 10, slots := #[.int (-82)], vm := .none },
  { cls := 10, slots := #[.int (-81)], vm := .none },
  { cls := 10, slots := #[.int (-80)], vm := .none },
  { cls := 10, slots := #[.int (-79)], vm := .none },
  { cls := 10, slots := #[.int (-78)], vm := .none },
  { cls := 10, slots := #[.int (-77)], vm := .none },
  { cls := 10, slots := #[.int (-76)], vm := .none },
  { cls := 10, slots := #[.int (-75)], vm := .none },
  { cls := 10, slots := #[.int (-74)], vm := .none },
  { cls := 10, slots := #[.int (-73)], vm := .none },
  { cls := 10, slots := #[.int (-72)], vm := .none },
  { cls := 10, slots := #[.int (-71)], vm := .none },
  { cls := 10, slots := #[.int (-70)], vm := .none },
  { cls := 10, slots := #[.int (-69)], vm := .none },
  { cls := 10, slots := #[.int (-68)], vm := .none },
  { cls := 10, slots := #[.int (-67)], vm := .none },
  { cls := 10, slots := #[.int (-66)], vm := .none },
  { cls := 10, slots := #[.int (-65)], vm := .none },
  { cls := 10, slots := #[.int (-64)], vm := .none },
  { cls := 10, slots := #[.int (-63)], vm := .none },
  { cls := 10, slots := #[.int (-62)], vm := .none },
  { cls := 10, slots := #[.int (-61)], vm := .none },
  { cls := 10, slots := #[.int (-60)], vm := .none },
  { cls := 10, slots := #[.int (-59)], vm := .none },
  { cls := 10, slots := #[.int (-58)], vm := .none },
  { cls := 10, slots := #[.int (-57)], vm := .none },
  { cls := 10, slots := #[.int (-56)], vm := .none },
  { cls := 10, slots := #[.int (-55)], vm := .none },
  { cls := 10, slots := #[.int (-54)], vm := .none },
  { cls := 10, slots := #[.int (-53)], vm := .none },
  { cls := 10, slots := #[.int (-52)], vm := .none },
  { cls := 10, slots := #[.int (-51)], vm := .none },
  { cls := 10, slots := #[.int (-50)], vm := .none },
  { cls := 10, slots := #[.int (-49)], vm := .none },
  { cls := 10, slots := #[.int (-48)], vm := .none },
  { cls := 10, slots := #[.int (-47)], vm := .none },
  { cls := 10, slots := #[.int (-46)], vm := .none },
  { cls := 10, slots := #[.int (-45)], vm := .none },
  { cls := 10, slots := #[.int (-44)], vm := .none },
  { cls := 10, slots := #[.int (-43)], vm := .none },
  { cls := 10, slots := #[.int (-42)], vm := .none },
  { cls := 10, slots := #[.int (-41)], vm := .none },
  { cls := 10, slots := #[.int (-40)], vm := .none },
  { cls := 10, slots := #[.int (-39)], vm := .none },
  { cls := 10, slots := #[.int (-38)], vm := .none },
  { cls := 10, slots := #[.int (-37)], vm := .none },
  { cls := 10, slots := #[.int (-36)], vm := .none },
  { cls := 10, slots := #[.int (-35)], vm := .none },
  { cls := 10, slots := #[.int (-34)], vm := .none },
  { cls := 10, slots := #[.int (-33)], vm := .none },
  { cls := 10, slots := #[.int (-32)], vm := .none },
  { cls := 10, slots := #[.int (-31)], vm := .none },
  { cls := 10, slots := #[.int (-30)], vm := .none },
  { cls := 10, slots := #[.int (-29)], vm := .none },
  { cls := 10, slots := #[.int (-28)], vm := .none },
  { cls := 10, slots := #[.int (-27)], vm := .none },
  { cls := 10, slots := #[.int (-26)], vm := .none },
  { cls := 10, slots := #[.int (-25)], vm := .none },
  { cls := 10, slots := #[.int (-24)], vm := .none },
  { cls := 10, slots := #[.int (-23)], vm := .none },
  { cls := 10, slots := #[.int (-22)], vm := .none },
  { cls := 10, slots := #[.int (-21)], vm := .none },
  { cls := 10, slots := #[.int (-20)], vm := .none },
  { cls := 10, slots := #[.int (-19)], vm := .none },
  { cls := 10, slots := #[.int (-18)], vm := .none },
  { cls := 10, slots := #[.int (-17)], vm := .none },
  { cls := 10, slots := #[.int (-16)], vm := .none },
  { cls := 10, slots := #[.int (-15)], vm := .none },
  { cls := 10, slots := #[.int (-14)], vm := .none },
  { cls := 10, slots := #[.int (-13)], vm := .none },
  { cls := 10, slots := #[.int (-12)], vm := .none },
  { cls := 10, slots := #[.int (-11)], vm := .none },
  { cls := 10, slots := #[.int (-10)], vm := .none },
  { cls := 10, slots := #[.int (-9)], vm := .none },
  { cls := 10, slots := #[.int (-8)], vm := .none },
  { cls := 10, slots := #[.int (-7)], vm := .none },
  { cls := 10, slots := #[.int (-6)], vm := .none },
  { cls := 10, slots := #[.int (-5)], vm := .none },
  { cls := 10, slots := #[.int (-4)], vm := .none },
  { cls := 10, slots := #[.int (-3)], vm := .none },
  { cls := 10, slots := #[.int (-2)], vm := .none },
  { cls := 10, slots := #[.int (-1)], vm := .none },
  { cls := 10, slots := #[.int (0)], vm := .none },
  { cls := 10, slots := #[.int (1)], vm := .none },
  { cls := 10, slots := #[.int (2)], vm := .none },
  { cls := 10, slots := #[.int (3)], vm := .none },
  { cls := 10, slots := #[.int (4)], vm := .none },
  { cls := 10, slots := #[.int (5)], vm := .none },
  { cls := 10, slots := #[.int (6)], vm := .none },
  { cls := 10, slots := #[.int (7)], vm := .none },
  { cls := 10, slots := #[.int (8)], vm := .none },
  { cls := 10, slots := #[.int (9)], vm := .none },
  { cls := 10, slots := #[.int (10)], vm := .none },
  { cls := 10, slots := #[.int (11)], vm := .none },
  { cls := 10, slots := #[.int (12)], vm := .none },
  { cls := 10, slots := #[.int (13)], vm := .none },
  { cls := 10, slots := #[.int (14)], vm := .none },
  { cls := 10, slots := #[.int (15)], vm := .none },
  { cls := 10, slots := #[.int (16)], vm := .none },
  { cls := 10, slots := #[.int (17)], vm := .none },
  { cls := 10, slots := #[.int (18)], vm := .none },
  { cls := 10, slots := #[.int (19)], vm := .none },
  { cls := 10, slots := #[.int (20)], vm := .none },
  { cls := 10, slots := #[.int (21)], vm := .none },
  { cls := 10, slots := #[.int (22)], vm := .none },
  { cls := 10, slots := #[.int (23)], vm := .none },
  { cls := 10, slots := #[.int (24)], vm := .none },
  { cls := 10, slots := #[.int (25)], vm := .none },
  { cls := 10, slots := #[.int (26)], vm := .none },
  { cls := 10, slots := #[.int (27)], vm := .none },
  { cls := 10, slots := #[.int (28)], vm := .none },
  { cls := 10, slots := #[.int (29)], vm := .none },
  { cls := 10, slots := #[.int (30)], vm := .none },
  { cls := 10, slots := #[.int (31)], vm := .none },
  { cls := 10, slots := #[.int (32)], vm := .none },
  { cls := 10, slots := #[.int (33)], vm := .none },
  { cls := 10, slots := #[.int (34)], vm := .none },
  { cls := 10, slots := #[.int (35)], vm := .none },
  { cls := 10, slots := #[.int (36)], vm := .none },
  { cls := 10, slots := #[.int (37)], vm := .none },
  { cls := 10, slots := #[.int (38)], vm := .none },
  { cls := 10, slots := #[.int (39)], vm := .none },
  { cls := 10, slots := #[.int (40)], vm := .none },
  { cls := 10, slots := #[.int (41)], vm := .none },
  { cls := 10, slots := #[.int (42)], vm := .none },
  { cls := 10, slots := #[.int (43)], vm := .none },
  { cls := 10, slots := #[.int (44)], vm := .none },
  { cls := 10, slots := #[.int (45)], vm := .none },
  { cls := 10, slots := #[.int (46)], vm := .none },
  { cls := 10, slots := #[.int (47)], vm := .none },
  { cls := 10, slots := #[.int (48)], vm := .none },
  { cls := 10, slots := #[.int (49)], vm := .none },
  { cls := 10, slots := #[.int (50)], vm := .none },
  { cls := 10, slots := #[.int (51)], vm := .none },
  { cls := 10, slots := #[.int (52)], vm := .none },
  { cls := 10, slots := #[.int (53)], vm := .none },
  { cls := 10, slots := #[.int (54)], vm := .none },
  { cls := 10, slots := #[.int (55)], vm := .none },
  { cls := 10, slots := #[.int (56)], vm := .none },
  { cls := 10, slots := #[.int (57)], vm := .none },
  { cls := 10, slots := #[.int (58)], vm := .none },
  { cls := 10, slots := #[.int (59)], vm := .none },
  { cls := 10, slots := #[.int (60)], vm := .none },
  { cls := 10, slots := #[.int (61)], vm := .none },
  { cls := 10, slots := #[.int (62)], vm := .none },
  { cls := 10, slots := #[.int (63)], vm := .none },
  { cls := 10, slots := #[.int (64)], vm := .none },
  { cls := 10, slots := #[.int (65)], vm := .none },
  { cls := 10, slots := #[.int (66)], vm := .none },
  { cls := 10, slots := #[.int (67)], vm := .none },
  { cls := 10, slots := #[.int (68)], vm := .none },
  { cls := 10, slots := #[.int (69)], vm := .none },
  { cls := 10, slots := #[.int (70)], vm := .none },
  { cls := 10, slots := #[.int (71)], vm := .none },
  { cls := 10, slots := #[.int (72)], vm := .none },
  { cls := 10, slots := #[.int (73)], vm := .none },
  { cls := 10, slots := #[.int (74)], vm := .none },
  { cls := 10, slots := #[.int (75)], vm := .none },
  { cls := 10, slots := #[.int (76)], vm := .none },
  { cls := 10, slots := #[.int (77)], vm := .none },
  { cls := 10, slots := #[.int (78)], vm := .none },
  { cls := 10, slots := #[.int (79)], vm := .none },
  { cls := 10, slots := #[.int (80)], vm := .none },
  { cls := 10, slots := #[.int (81)], vm := .none },
  { cls := 10, slots := #[.int (82)], vm := .none },
  { cls := 10, slots := #[.int (83)], vm := .none },
  { cls := 10, slots := #[.int (84)], vm := .none },
  { cls := 10, slots := #[.int (85)], vm := .none },
  { cls := 10, slots := #[.int (86)], vm := .none },
  { cls := 10, slots := #[.int (87)], vm := .none },
  { cls := 10, slots := #[.int (88)], vm := .none },
  { cls := 10, slots := #[.int (89)], vm := .none },
  { cls := 10, slots := #[.int (90)], vm := .none },
  { cls := 10, slots := #[.int (91)], vm := .none },
  { cls := 10, slots := #[.int (92)], vm := .none },
  { cls := 10, slots := #[.int (93)], vm := .none },
  { cls := 10, slots := #[.int (94)], vm := .none },
  { cls := 10, slots := #[.int (95)], vm := .none },
  { cls := 10, slots := #[.int (96)], vm := .none },
  { cls := 10, slots := #[.int (97)], vm := .none },
  { cls := 10, slots := #[.int (98)], vm := .none },
  { cls := 10, slots := #[.int (99)], vm := .none },
  { cls := 10, slots := #[.int (100)], vm := .none },
  { cls := 10, slots := #[.int (101)], vm := .none },
  { cls := 10, slots := #[.int (102)], vm := .none },
  { cls := 10, slots := #[.int (103)], vm := .none },
  { cls := 10, slots := #[.int (104)], vm := .none },
  { cls := 10, slots := #[.int (105)], vm := .none },
  { cls := 10, slots := #[.int (106)], vm := .none },
  { cls := 10, slots := #[.int (107)], vm := .none },
  { cls := 10, slots := #[.int (108)], vm := .none },
  { cls := 10, slots := #[.int (109)], vm := .none },
  { cls := 10, slots := #[.int (110)], vm := .none },
  { cls := 10, slots := #[.int (111)], vm := .none },
  { cls := 10, slots := #[.int (112)], vm := .none },
  { cls := 10, slots := #[.int (113)], vm := .none },
  { cls := 10, slots := #[.int (114)], vm := .none },
  { cls := 10, slots := #[.int (115)], vm := .none },
  { cls := 10, slots := #[.int (116)], vm := .none },
  { cls := 10, slots := #[.int (117)], vm := .none },
  { cls := 10, slots := #[.int (118)], vm := .none },
  { cls := 10, slots := #[.int (119)], vm := .none },
  { cls := 10, slots := #[.int (120)], vm := .none },
  { cls := 10, slots := #[.int (121)], vm := .none },
  { cls := 10, slots := #[.int (122)], vm := .none },
  { cls := 10, slots := #[.int (123)], vm := .none },
  { cls := 10, slots := #[.int (124)], vm := .none },
  { cls := 10, slots := #[.int (125)], vm := .none },
  { cls := 10, slots := #[.int (126)], vm := .none },
  { cls := 10, slots := #[.int (127)], vm := .none }]
def classes : Array Class := #[k0, k1, k2, k3, k4, k5, k6, k7, k8, k9, k10, k11, k12, k13, k14, k15, k16, k17]
def interned : List (Array UInt16 × Addr) := []
def slotsUsed : Nat := 526
def theMethod : MethodId := ⟨1, 1⟩
def args0 : Array Value := #[.int 1, .int 2, .int 3, .int 4, .int 5]
def aboutOver (below : List Frame) : State where
  vm := { classes := classes, interned := interned.toArray }
  heap := heap
  slotsUsed := slotsUsed
  threads := #[{ frames := .invoking theMethod args0 :: below }]
def below0 : List Frame := [.native { method := ⟨0, 0⟩, args := #[] }]
def about1 : State := aboutOver below0
def p0 : Program := .bare "" "" ""
def e0 : Env := launch0.env 0 0 0
theorem w_frames : about1.frames = Frame.invoking theMethod args0 :: below0 := rfl
set_option maxRecDepth 65536 in
theorem w_args : argsFit about1.vm theMethod args0 = true := by decide +kernel
set_option maxRecDepth 65536 in
theorem w_heap : heapFits about1 = true := by decide +kernel
set_option maxRecDepth 65536 in
theorem w_runnable : about1.curStatus? = some .runnable := by decide +kernel
set_option maxRecDepth 65536 in
theorem w_alone : about1.alone = true := by decide +kernel
set_option maxRecDepth 65536 in
theorem w_named : about1.methodNamed? x = some theMethod := by decide +kernel
set_option maxRecDepth 65536 in
theorem w_hears : about1.hears theMethod below0 = true := by decide +kernel
set_option maxRecDepth 65536 in
theorem w_ripe : about1.ripe theMethod args0 below0 = true := by decide +kernel
theorem w_running : about1.status = .running := rfl
set_option maxRecDepth 65536 in
theorem w_room : about1.hasRoom e0.platform room_1 = true :=
  launch0.hasRoom_least _ room_1 (by decide +kernel) (by decide +kernel) (by decide +kernel) (by decide +kernel) (by decide +kernel) (by decide +kernel)
theorem allAtoms_all (ts : List Jvm.Cond) (a : Array Jvm.Value) (st : Jvm.State) : (allAtoms ts).before a st = ts.all (fun c => c.before a st) := by
  induction ts with
  | nil => rfl
  | cons c t ih =>
    show (Jvm.Cond.and c (allAtoms t)).before a st = _
    rw [Jvm.Cond.before_and, ih, List.all_cons]
def words1 : List Jvm.Cond := Jvm.Cond.code x code maxLocals ret :: tables_1
/-- a 'code' word, met by the world's own term for the bytes: nothing is compared byte by byte -/
theorem code_word {y : MethodName} {bytes : ByteArray} {mx : Nat} {rt : Option FieldType} {a : Array Value} {s : State} {m : MethodId} {meth : Method} {c : Code} (h1 : s.methodNamed? y = some m) (h2 : s.vm.method? m = some meth) (h3 : meth.code = some c) (h4 : c.code = bytes)
    (h5 : (c.maxLocals == mx && c.exceptionTable.isEmpty && decide (c.maxStack ≤ mostOperands) && decide (meth.sig.returnType = rt) && !meth.locks && decide (parseMethodDescriptor y.desc = some meth.sig)) = true) : (Jvm.Cond.code y bytes mx rt).before a s = true := by
  simp only [Bool.and_eq_true, beq_iff_eq, Bool.not_eq_true', decide_eq_true_eq] at h5
  obtain ⟨⟨⟨⟨⟨g1, g2⟩, g3⟩, g4⟩, g5⟩, g6⟩ := h5
  simp [Cond.before, Cond.holds, Cond.value, h1, h2, h3, h4, g1, g2, g3, g4, g5, g6]
def isCode : Jvm.Cond → Bool
  | .code _ _ _ _ => true
  | _ => false
theorem all_split {L : List Jvm.Cond} {P : Jvm.Cond → Bool} (h1 : L.all (fun c => isCode c || P c) = true) (h2 : ∀ c ∈ L.filter isCode, P c = true) : L.all P = true := by
  refine List.all_eq_true.mpr fun c hc => ?_
  have h := List.all_eq_true.mp h1 c hc
  rcases Bool.eq_false_or_eq_true (isCode c) with hi | hi
  · exact h2 c (List.mem_filter.mpr ⟨hc, hi⟩)
  · simpa [hi] using h
set_option maxRecDepth 65536 in
theorem w_c0 : (Jvm.Cond.code x code maxLocals ret).before args0 about1 = true := code_word (m := ⟨1, 1⟩) (meth := k1m1) (c := k1c1) (by decide +kernel) rfl rfl rfl (by decide +kernel)
set_option maxRecDepth 65536 in
theorem w_c1 : (Jvm.Cond.code ({ cls := "com/example/vestbook/vestbook/engine/Life", name := "<init>", desc := "(Lcom/example/vestbook/vestbook/engine/Sex;I)V" } : Jvm.MethodName) prog_55_method_1_code (3 : Nat) (Option.none : Option Jvm.ClassFile.FieldType)).before args0 about1 = true := code_word (m := ⟨7, 0⟩) (meth := k7m0) (c := k7c0) (by decide +kernel) rfl rfl rfl (by decide +kernel)
set_option maxRecDepth 65536 in
theorem w_c2 : (Jvm.Cond.code ({ cls := "java/lang/Object", name := "<init>", desc := "()V" } : Jvm.MethodName) object_method_1_code (1 : Nat) (Option.none : Option Jvm.ClassFile.FieldType)).before args0 about1 = true := code_word (m := ⟨0, 0⟩) (meth := k0m0) (c := k0c0) (by decide +kernel) rfl rfl rfl (by decide +kernel)
set_option maxRecDepth 65536 in
theorem w_c3 : (Jvm.Cond.code ({ cls := "com/example/vestbook/vestbook/engine/Life", name := "equals", desc := "(Ljava/lang/Object;)Z" } : Jvm.MethodName) prog_55_method_4_code (3 : Nat) (Option.some Jvm.ClassFile.FieldType.boolean)).before args0 about1 = true := code_word (m := ⟨7, 1⟩) (meth := k7m1) (c := k7c1) (by decide +kernel) rfl rfl rfl (by decide +kernel)
set_option maxRecDepth 65536 in
theorem w_c4 : (Jvm.Cond.code ({ cls := "java/lang/Integer", name := "valueOf", desc := "(I)Ljava/lang/Integer;" } : Jvm.MethodName) jdk_33_method_22_code (1 : Nat) (Option.some (Jvm.ClassFile.FieldType.object "java/lang/Integer"))).before args0 about1 = true := code_word (m := ⟨10, 0⟩) (meth := k10m0) (c := k10c0) (by decide +kernel) rfl rfl rfl (by decide +kernel)
set_option maxRecDepth 65536 in
theorem w_c5 : (Jvm.Cond.code ({ cls := "java/lang/Integer", name := "<init>", desc := "(I)V" } : Jvm.MethodName) jdk_33_method_23_code (2 : Nat) (Option.none : Option Jvm.ClassFile.FieldType)).before args0 about1 = true := code_word (m := ⟨10, 1⟩) (meth := k10m1) (c := k10c1) (by decide +kernel) rfl rfl rfl (by decide +kernel)
set_option maxRecDepth 65536 in
theorem w_c6 : (Jvm.Cond.code ({ cls := "java/lang/Number", name := "<init>", desc := "()V" } : Jvm.MethodName) jdk_18_method_1_code (1 : Nat) (Option.none : Option Jvm.ClassFile.FieldType)).before args0 about1 = true := code_word (m := ⟨8, 0⟩) (meth := k8m0) (c := k8c0) (by decide +kernel) rfl rfl rfl (by decide +kernel)
def codes1 : List Jvm.Cond := [Jvm.Cond.code x code maxLocals ret, Jvm.Cond.code ({ cls := "com/example/vestbook/vestbook/engine/Life", name := "<init>", desc := "(Lcom/example/vestbook/vestbook/engine/Sex;I)V" } : Jvm.MethodName) prog_55_method_1_code (3 : Nat) (Option.none : Option Jvm.ClassFile.FieldType), Jvm.Cond.code ({ cls := "java/lang/Object", name := "<init>", desc := "()V" } : Jvm.MethodName) object_method_1_code (1 : Nat) (Option.none : Option Jvm.ClassFile.FieldType), Jvm.Cond.code ({ cls := "com/example/vestbook/vestbook/engine/Life", name := "equals", desc := "(Ljava/lang/Object;)Z" } : Jvm.MethodName) prog_55_method_4_code (3 : Nat) (Option.some Jvm.ClassFile.FieldType.boolean), Jvm.Cond.code ({ cls := "java/lang/Integer", name := "valueOf", desc := "(I)Ljava/lang/Integer;" } : Jvm.MethodName) jdk_33_method_22_code (1 : Nat) (Option.some (Jvm.ClassFile.FieldType.object "java/lang/Integer")), Jvm.Cond.code ({ cls := "java/lang/Integer", name := "<init>", desc := "(I)V" } : Jvm.MethodName) jdk_33_method_23_code (2 : Nat) (Option.none : Option Jvm.ClassFile.FieldType), Jvm.Cond.code ({ cls := "java/lang/Number", name := "<init>", desc := "()V" } : Jvm.MethodName) jdk_18_method_1_code (1 : Nat) (Option.none : Option Jvm.ClassFile.FieldType)]
set_option maxRecDepth 65536 in
theorem codes_eq : words1.filter isCode = codes1 := rfl
theorem w_codes : ∀ c ∈ words1.filter isCode, c.before args0 about1 = true := by
  rw [codes_eq]
  intro c hc
  simp only [codes1, List.mem_cons, List.not_mem_nil, or_false] at hc
  rcases hc with rfl | rfl | rfl | rfl | rfl | rfl | rfl
  · exact w_c0
  · exact w_c1
  · exact w_c2
  · exact w_c3
  · exact w_c4
  · exact w_c5
  · exact w_c6
set_option maxRecDepth 65536 in
theorem w_t1 : (words1.take 24).all (fun c => isCode c || c.before args0 about1) = true := by decide +kernel
set_option maxRecDepth 65536 in
theorem w_t2 : ((words1.drop 24).take 24).all (fun c => isCode c || c.before args0 about1) = true := by decide +kernel
set_option maxRecDepth 65536 in
theorem w_t3 : ((words1.drop 24).drop 24).all (fun c => isCode c || c.before args0 about1) = true := by decide +kernel
theorem w_tables : (allAtoms (Jvm.Cond.code x code maxLocals ret :: tables_1)).before args0 about1 = true := by
  rw [allAtoms_all]
  show words1.all (fun c => c.before args0 about1) = true
  refine all_split ?_ w_codes
  rw [← List.take_append_drop 24 words1, List.all_append, w_t1, ← List.take_append_drop 24 (words1.drop 24), List.all_append, w_t2, w_t3]
  rfl
set_option maxRecDepth 65536 in
theorem w_rest : rest_1_c.before args0 about1 = true := by decide +kernel
set_option maxRecDepth 65536 in
theorem w_case : (Jvm.Cond.and given_1 narrow_1).before args0 about1 = true := by decide +kernel
theorem w_applies : (headSpec (Jvm.Cond.code x code maxLocals ret :: tables_1) room_1).applies x e0.platform about1 = true :=
  (Spec.applies_iff w_frames).mpr ⟨w_running, w_runnable, w_alone, w_named, w_hears, w_ripe, w_room, w_tables⟩
theorem atStart : AtStart classFile x code maxLocals ret World_1 tables_1 room_1 Calls_1 rest_1 Pre_1 launch0 p0 e0 about1 theMethod args0 below0 :=
  ⟨lists_1, trivial, launch0.admits_env _ _ _, launch0.least_env, fairChoices_fair.cas, fairChoices_fair.clock, w_frames, w_args, w_heap, w_applies, trivial, w_rest, w_case⟩
end start1
theorem witness_1 : WitnessClaimed_1 := ⟨start1.p0, start1.e0, start1.about1, start1.theMethod, start1.args0, start1.below0, start1.atStart⟩
end Jvm.Pilot.@@N@@
