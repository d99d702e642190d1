import JvmDerived
import JvmDerived.Pilot.@@N@@Statement
import JvmDerived.Pilot.@@N@@Code
set_option linter.unusedVariables false
set_option linter.unusedSimpArgs false
namespace Jvm.Pilot.@@N@@
open Jvm Jvm.ClassFile Sem Op Lib Jvm.Free Jvm.Stand Jvm.LawKit Jvm.RoadKit Bundle Jvm.Pilot.@@N@@.Jvm.D
theorem own_fldI {Z : State} {args : Array Value} {t : Term} {a : Addr} {C n d : String} {z : Int32} (ev : t.eval args Z none [] Z = some (.ref a)) (h : (Cond.eq (Term.field t C n d) (Term.int z)).value args Z none Z [] = some true) : Fld Z Z.heap a C n d (.int z) := by
  obtain ⟨x, y, h1, h2, k1, k2⟩ := cmp_v (Or.inl h)
  have e2 : y = .int z := (Option.some.inj h2).symm
  subst e2
  obtain ⟨w, rfl⟩ := k2
  have hq : (Cond.eq (Term.field t C n d) (Term.int z)).value args Z none Z [] = some (decide (w = z)) := by simp [Cond.value, h1, h2]
  have hw : w = z := gotT hq h
  subst hw
  exact Fld.start ((fld_at ev).symm.trans h1)
theorem own_fldJ {Z : State} {args : Array Value} {t : Term} {a : Addr} {C n d : String} {z : Int64} (ev : t.eval args Z none [] Z = some (.ref a)) (h : (Cond.eq (Term.field t C n d) (Term.long z)).value args Z none Z [] = some true) : Fld Z Z.heap a C n d (.long z) := by
  obtain ⟨x, y, h1, h2, k1, k2⟩ := cmp_v (Or.inl h)
  have e2 : y = .long z := (Option.some.inj h2).symm
  subst e2
  obtain ⟨w, rfl⟩ := k2
  have hq : (Cond.eq (Term.field t C n d) (Term.long z)).value args Z none Z [] = some (decide (w = z)) := eq_L h1 h2
  have hw : w = z := gotT hq h
  subst hw
  exact Fld.start ((fld_at ev).symm.trans h1)
theorem own_arrKeep {Z : State} {h h' : Heap} {ws : List Addr} {a : Addr} {c : Cell} {ty : FieldType} (F : Arr Z h a c ty) (K : Keep h h' ws) (q : a ∉ ws) : Arr Z h' a c ty := ⟨K.2.1 _ _ F.1 q, F.2⟩
theorem own_staKeep {Z : State} {h h' : Heap} {ws : List Addr} {C n d : String} {v : Value} (F : Sta Z h C n d v) (K : Keep h h' ws) (q : ∀ x ∈ ws, ∀ c : Cell, h[x]? = some c → c.vm.isStatics = false) : Sta Z h' C n d v := by
  obtain ⟨cf, i, k, f, st, cell, h1, h2, h3, h4, h5, h6, h7⟩ := F
  exact ⟨cf, i, k, f, st, cell, h1, h2, h3, h4, K.2.1 _ _ h5 (fun z => by rw [q _ z _ h5] at h6; cases h6), h6, h7⟩
theorem own_mask31 (x : Int32) : 0 ≤ (x &&& 2147483647).toInt := by
  have h := c_mask x 2147483647 31 (by decide) (by decide)
  rw [h]; exact Int.emod_nonneg _ (by decide)
theorem own_mod (x : Int32) (y : Int32) (d : Int) (hy : y.toInt = d) (hd : 0 < d) : 0 ≤ ((x &&& 2147483647) % y).toInt ∧ ((x &&& 2147483647) % y).toInt < d := by
  have h := (c_irem (x &&& 2147483647) y d hy).1 (own_mask31 x)
  rw [h]; exact ⟨Int.emod_nonneg _ (by omega), Int.emod_lt_of_pos _ hd⟩
theorem own_and (x m : Int32) (hm : 0 ≤ m.toInt) : 0 ≤ (x &&& m).toInt ∧ (x &&& m).toInt ≤ m.toInt := c_and x m hm
theorem own_len {Z : State} {args : Array Value} {t : Term} {a : Addr} {c : Cell} {ty : FieldType} {z : Int32} (ev : t.eval args Z none [] Z = some (.ref a)) (A : Arr Z Z.heap a c ty) (h : (Cond.eq (Term.length t) (Term.int z)).value args Z none Z [] = some true) : c.slots.size < 2 ^ 31 ∧ c.slots.size.toInt32 = z := by
  obtain ⟨x, y, h1, h2, k1, k2⟩ := cmp_v (Or.inl h)
  have ha := A.fin (Vm.Alike.refl _)
  by_cases q : c.slots.size < 2 ^ 31
  · have h3 := len_f ev ha q
    have hq : (Cond.eq (Term.length t) (Term.int z)).value args Z none Z [] = some (decide (c.slots.size.toInt32 = z)) := by simp only [Cond.value, h3, Term.int_eval]
    exact ⟨q, gotT hq h⟩
  · exfalso
    simp [Term.eval, ev, ha, q] at h1
theorem own_cap31 (x : Int32) : (x &&& (31 : Int32)).toNatClampNeg ≤ 31 := by
  have h := own_and x 31 (by decide)
  have h2 : (31 : Int32).toInt = 31 := by decide
  rw [h2] at h
  show (x &&& (31 : Int32)).toInt.toNat ≤ 31
  omega
theorem own_ix (x y : Int32) (hz : ¬ (x &&& (31 : Int32)) = (0 : Int32)) : ¬ ((y &&& (2147483647 : Int32)) % (x &&& (31 : Int32))) < 0 ∧ ((y &&& (2147483647 : Int32)) % (x &&& (31 : Int32))) < (x &&& (31 : Int32)) := by
  have h := own_and x 31 (by decide)
  have hp : 0 < (x &&& (31 : Int32)).toInt := by
    have : ¬ (x &&& (31 : Int32)).toInt = 0 := fun q => hz (Int32.toInt_inj.mp (q.trans rfl))
    omega
  have hm := own_mod y (x &&& (31 : Int32)) _ rfl hp
  refine ⟨?_, ?_⟩
  · rw [Int32.lt_iff_toInt_lt]; exact Int.not_lt.mpr hm.1
  · rw [Int32.lt_iff_toInt_lt]; exact hm.2
theorem d1_0 : decode prog_148_method_3_code 0 = .ok (.iload_n 0, 1) := by decide +kernel
theorem d1_1 : decode prog_148_method_3_code 1 = .ok (.ifCond .ne 9, 3) := by decide +kernel
theorem d1_4 : decode prog_148_method_3_code 4 = .ok (.getstatic 1, 3) := by decide +kernel
theorem d1_7 : decode prog_148_method_3_code 7 = .ok (.goto 7, 3) := by decide +kernel
theorem d1_14 : decode prog_148_method_3_code 14 = .ok (.areturn, 1) := by decide +kernel
theorem pn_1z : plainName "com/example/mexo/mexo/lang/tla/expr/Expr" = true := by first | (simp [plainName, overriddenIn]; done) | decide +kernel
theorem ef_1z (m : MethodId) (x0 : Int32) : entryFrame m #[(.int x0)] 1 = mkF m 0 #[.val (.int x0)] [] := by first | (simp [entryFrame, mkF, argsToLocals, Value.category]; done) | rfl
def Q1z (Z : State) (p1 : Int32) (s_NO_VALUES : Addr) (h0 : Heap) (n0 : Nat) (v : Option Value) (h : Heap) (L : List Loc) : Prop := v = some (.ref s_NO_VALUES) ∧ Fr n0 L ∧ h = h0
set_option maxRecDepth 65536 in
set_option maxHeartbeats 40000000 in
theorem rm1z (l : Launch) (Z : State) (a0 : Array Value) (hw : ∀ d ∈ tables_1, d.before a0 Z = true) (ws : List Jvm.Cond) (p1 : Int32) (s_NO_VALUES : Addr) (h0 : Heap) (n0 : Nat) (Z0 : n0 ≤ h0.size) (hq1_1 : p1 = (0 : Int32)) (S_NO_VALUES : Sta Z h0 "com/example/mexo/mexo/lang/tla/expr/Expr" "NO_VALUES" "[Lcom/example/mexo/mexo/core/value/Value;" (.ref s_NO_VALUES)) :
    MetFree l (⟨"com/example/mexo/mexo/lang/tla/expr/Expr", "newFrame", "(I)[Lcom/example/mexo/mexo/core/value/Value;"⟩ : MethodName) (head1 (Jvm.Cond.code (⟨"com/example/mexo/mexo/lang/tla/expr/Expr", "newFrame", "(I)[Lcom/example/mexo/mexo/core/value/Value;"⟩ : MethodName) prog_148_method_3_code 1 (some (.array (.object "com/example/mexo/mexo/core/value/Value"))) :: ws) ({ frames := 0, cells := 0, slots := 0, locals := 0 } : Room)) (fun a U => a = #[(.int p1)] ∧ Z.Warmed39 U.vm ∧ U.heap = h0) (fun _ _ _ _ _ => True) (fun _ U o U' => ∃ v L, o = .returned v ∧ Q1z Z p1 s_NO_VALUES h0 n0 v U'.heap L ∧ FrameEnd U o U' L ({ frames := 0, cells := 0, slots := 0, locals := 0 } : Room).cells ({ frames := 0, cells := 0, slots := 0, locals := 0 } : Room).slots) := by
  refine MetFree.of_bodySF (plainFor_of_name pn_1z) hisR ?_
  intro p e s m args below meth c s₁ Bd hml0 hP hK
  obtain ⟨rfl, hZ, hh⟩ := hP
  have hx := Bd.exec
  have hby := Bd.bytes
  have hml : c.maxLocals = 1 := hml0
  have hown : s.vm.findClass "com/example/mexo/mexo/lang/tla/expr/Expr" = some m.cls := findClass_of_methodNamed Bd.named
  have hnm := (name_of_methodNamed Bd.named Bd.method).1
  have X0 : Stand p l e ({ frames := 0, cells := 0, slots := 0, locals := 0 } : Room) s m #[(.int p1)] below meth c s₁ [] 0 0 := Stand.of_body Bd
  have e0 : s₁.heap = h0 := by rw [← hh, Bd.state]; rfl
  have N0 := Fr.nil n0
  have pre0 : ∀ t, Steps p.tables e below (s₁.setTop (mkF m 0 #[.val (.int p1)] [])) t → Steps p.tables e below (s₁.setTop (entryFrame m #[(.int p1)] 1)) t := fun t k => castTop (ef_1z m p1) k
  obtain ⟨T2, X2, e2, st2⟩ := getS2 X0 hx hZ hown (host := "") (Or.inl (hw _ (List.mem_of_getElem? (i := 4) rfl))) Via.refl e0 S_NO_VALUES (g := (mkF m 4 #[.val (.int p1)] [])) rfl (hb hby d1_4)
  obtain ⟨fs, hr, hrun, hended, hW, hsame⟩ := X2.leave (v := some (.ref s_NO_VALUES)) (fun h => by rw [Bd.returns] at h; cases h)
  refine ⟨_, _, pre0 _ ?_, hrun, hended, _, _, rfl, ?_, ⟨_, rfl⟩, hW, hsame.mono (by decide) (by decide)⟩
  · show Steps p.tables e below (s₁.setTop (mkF m 0 #[.val (.int p1)] [])) _
    refine XS.iloadN X0.here hx rfl (hb hby d1_0) rfl ?_
    show Steps p.tables e below (s₁.setTop (mkF m 1 #[.val (.int p1)] [(.int p1)])) _
    refine XS.ifNo X0.here hx rfl (hb hby d1_1) rfl ((if0 _ _).trans (teq (hq1_1)).2) ?_
    show Steps p.tables e below (s₁.setTop (mkF m 4 #[.val (.int p1)] [])) _
    refine st2 _ ?_
    show Steps p.tables e below (T2.setTop (mkF m 7 #[.val (.int p1)] [(.ref s_NO_VALUES)])) _
    refine XS.goto X2.here hx rfl (pc0 := 7) (pc' := 14) rfl (hb hby d1_7) (by decide) (by decide) ?_
    show Steps p.tables e below (T2.setTop (mkF m 14 #[.val (.int p1)] [(.ref s_NO_VALUES)])) _
    exact retOut X2 hx Bd.returns rfl (Or.inr (Or.inr (Or.inr (Or.inr ⟨rfl, rfl, rfl⟩)))) (hb hby d1_14) hr
  · show Q1z Z p1 s_NO_VALUES h0 n0 _ T2.heap _
    rw [e2]
    exact ⟨rfl, N0, rfl⟩
theorem d1_10 : decode prog_148_method_3_code 10 = .ok (.iload_n 0, 1) := by decide +kernel
theorem d1_11 : decode prog_148_method_3_code 11 = .ok (.anewarray 7, 3) := by decide +kernel
theorem pn_1n : plainName "com/example/mexo/mexo/lang/tla/expr/Expr" = true := by first | (simp [plainName, overriddenIn]; done) | decide +kernel
theorem ef_1n (m : MethodId) (x0 : Int32) : entryFrame m #[(.int x0)] 1 = mkF m 0 #[.val (.int x0)] [] := by first | (simp [entryFrame, mkF, argsToLocals, Value.category]; done) | rfl
def Q1n (Z : State) (p1 : Int32) (h0 : Heap) (n0 : Nat) (v : Option Value) (h : Heap) (L : List Loc) : Prop := v = some (.ref h0.size) ∧ Fr n0 L ∧ Ext h0 h ∧ ∃ k, Arv Z h h0.size k (Jvm.ClassFile.FieldType.object "com/example/mexo/mexo/core/value/Value") p1 [] .null
set_option maxRecDepth 65536 in
set_option maxHeartbeats 40000000 in
theorem rm1n (l : Launch) (Z : State) (a0 : Array Value) (hw : ∀ d ∈ tables_1, d.before a0 Z = true) (ws : List Jvm.Cond) (p1 : Int32) (h0 : Heap) (n0 : Nat) (Z0 : n0 ≤ h0.size) (hq1_1 : ¬ (p1 = (0 : Int32))) (hnn : ¬ p1 < 0) (hcap : p1.toNatClampNeg ≤ 31) :
    MetFree l (⟨"com/example/mexo/mexo/lang/tla/expr/Expr", "newFrame", "(I)[Lcom/example/mexo/mexo/core/value/Value;"⟩ : MethodName) (head1 (Jvm.Cond.code (⟨"com/example/mexo/mexo/lang/tla/expr/Expr", "newFrame", "(I)[Lcom/example/mexo/mexo/core/value/Value;"⟩ : MethodName) prog_148_method_3_code 1 (some (.array (.object "com/example/mexo/mexo/core/value/Value"))) :: ws) ({ frames := 0, cells := 1, slots := 31, locals := 0 } : Room)) (fun a U => a = #[(.int p1)] ∧ Z.Warmed39 U.vm ∧ U.heap = h0) (fun _ _ _ _ _ => True) (fun _ U o U' => ∃ v L, o = .returned v ∧ Q1n Z p1 h0 n0 v U'.heap L ∧ FrameEnd U o U' L ({ frames := 0, cells := 1, slots := 31, locals := 0 } : Room).cells ({ frames := 0, cells := 1, slots := 31, locals := 0 } : Room).slots) := by
  refine MetFree.of_bodySF (plainFor_of_name pn_1n) hisR ?_
  intro p e s m args below meth c s₁ Bd hml0 hP hK
  obtain ⟨rfl, hZ, hh⟩ := hP
  have hx := Bd.exec
  have hby := Bd.bytes
  have hml : c.maxLocals = 1 := hml0
  have hown : s.vm.findClass "com/example/mexo/mexo/lang/tla/expr/Expr" = some m.cls := findClass_of_methodNamed Bd.named
  have hnm := (name_of_methodNamed Bd.named Bd.method).1
  have X0 : Stand p l e ({ frames := 0, cells := 1, slots := 31, locals := 0 } : Room) s m #[(.int p1)] below meth c s₁ [] 0 0 := Stand.of_body Bd
  have e0 : s₁.heap = h0 := by rw [← hh, Bd.state]; rfl
  have N0 := Fr.nil n0
  have pre0 : ∀ t, Steps p.tables e below (s₁.setTop (mkF m 0 #[.val (.int p1)] [])) t → Steps p.tables e below (s₁.setTop (entryFrame m #[(.int p1)] 1)) t := fun t k => castTop (ef_1n m p1) k
  obtain ⟨T2, h2, k2, X2, e2, E2, A2, O2, st2⟩ := newR X0 hx hZ hown (hw _ (List.mem_of_getElem? (i := 7) rfl)) (hw _ (List.mem_of_getElem? (i := 8) rfl)) e0 (g := (mkF m 11 #[.val (.int p1)] [(.int p1)])) rfl (hb hby d1_11) rfl hnn (cap := 31) hcap (by decide) (by decide) (by decide)
  obtain ⟨b2, g2⟩ : ∃ z, z = h0.size := ⟨_, rfl⟩
  rw [← g2] at A2 st2
  have g_b2 : n0 ≤ b2 := Nat.le_trans Z0 (Nat.le_of_eq g2.symm)
  have sz_b2 : h0.size ≤ b2 := Nat.le_trans (Keep.refl h0 []).1 (Nat.le_of_eq g2.symm)
  have Z2 : n0 ≤ h2.size := Nat.le_trans Z0 E2.1
  have KK2 := (Keep.ext (Keep.refl h0 []) E2)
  have V2 : Arv Z h2 b2 k2 (Jvm.ClassFile.FieldType.object "com/example/mexo/mexo/core/value/Value") p1 [] .null := (Arv.new A2 hnn)
  obtain ⟨fs, hr, hrun, hended, hW, hsame⟩ := X2.leave (v := some (.ref b2)) (fun h => by rw [Bd.returns] at h; cases h)
  refine ⟨_, _, pre0 _ ?_, hrun, hended, _, _, rfl, ?_, ⟨_, rfl⟩, hW, hsame.mono (by decide) (by decide)⟩
  · show Steps p.tables e below (s₁.setTop (mkF m 0 #[.val (.int p1)] [])) _
    refine XS.iloadN X0.here hx rfl (hb hby d1_0) rfl ?_
    show Steps p.tables e below (s₁.setTop (mkF m 1 #[.val (.int p1)] [(.int p1)])) _
    refine XS.ifYes X0.here hx rfl (pc0 := 1) (pc' := 10) rfl (hb hby d1_1) rfl ((if0 _ _).trans (feq (hq1_1)).2) (by decide) (by decide) ?_
    show Steps p.tables e below (s₁.setTop (mkF m 10 #[.val (.int p1)] [])) _
    refine XS.iloadN X0.here hx rfl (hb hby d1_10) rfl ?_
    show Steps p.tables e below (s₁.setTop (mkF m 11 #[.val (.int p1)] [(.int p1)])) _
    refine st2 _ ?_
    show Steps p.tables e below (T2.setTop (mkF m 14 #[.val (.int p1)] [(.ref b2)])) _
    exact retOut X2 hx Bd.returns rfl (Or.inr (Or.inr (Or.inr (Or.inr ⟨rfl, rfl, rfl⟩)))) (hb hby d1_14) hr
  · show Q1n Z p1 h0 n0 _ T2.heap _
    rw [e2]
    exact (by subst g2; exact ⟨rfl, N0, E2, _, V2⟩)
theorem pn_0z : plainName "com/example/mexo/mexo/lang/tla/expr/ExprNewFramePinLaw" = true := by first | (simp [plainName, overriddenIn]; done) | decide +kernel
theorem pd_0z_0 : parseMethodDescriptor "(I)[Lcom/example/mexo/mexo/core/value/Value;" = some ⟨[.int], some (.array (.object "com/example/mexo/mexo/core/value/Value"))⟩ := by decide +kernel
theorem ef_0z (m : MethodId) (x0 : Int32) (x1 : Int32) : entryFrame m #[(.int x0), (.int x1)] maxLocals = mkF m 0 #[.val (.int x0), .val (.int x1), .unset, .unset, .unset, .unset] [] := by first | (simp [entryFrame, mkF, argsToLocals, Value.category, maxLocals]; done) | rfl
def Q0z (Z : State) (p1 : Int32) (p2 : Int32) (kNO : ClassId) (s_NO_VALUES : Addr) (h0 : Heap) (n0 : Nat) (v : Option Value) (h : Heap) (L : List Loc) : Prop := v = some (.int (1 : Int32)) ∧ Fr n0 L
set_option maxRecDepth 65536 in
set_option maxHeartbeats 40000000 in
theorem rm0z (l : Launch) (Z : State) (a0 : Array Value) (hw : ∀ d ∈ tables_1, d.before a0 Z = true) (ws : List Jvm.Cond) (p1 : Int32) (p2 : Int32) (kNO : ClassId) (s_NO_VALUES : Addr) (h0 : Heap) (n0 : Nat) (Z0 : n0 ≤ h0.size) (hz : (p1 &&& (31 : Int32)) = (0 : Int32)) (V_NO : Arv Z h0 s_NO_VALUES kNO (Jvm.ClassFile.FieldType.object "com/example/mexo/mexo/core/value/Value") (0 : Int32) [] .null) (S_NO_VALUES : Sta Z h0 "com/example/mexo/mexo/lang/tla/expr/Expr" "NO_VALUES" "[Lcom/example/mexo/mexo/core/value/Value;" (.ref s_NO_VALUES)) :
    MetFree l x (head1 (Jvm.Cond.code x code maxLocals ret :: ws) room_1) (fun a U => a = #[(.int p1), (.int p2)] ∧ Z.Warmed39 U.vm ∧ U.heap = h0) (fun _ _ _ _ _ => True) (fun _ U o U' => ∃ v L, o = .returned v ∧ Q0z Z p1 p2 kNO s_NO_VALUES h0 n0 v U'.heap L ∧ FrameEnd U o U' L room_1.cells room_1.slots) := by
  refine MetFree.of_bodySF (plainFor_of_name pn_0z) hisR ?_
  intro p e s m args below meth c s₁ Bd hml0 hP hK
  obtain ⟨rfl, hZ, hh⟩ := hP
  have hx := Bd.exec
  have hby := Bd.bytes
  have hml : c.maxLocals = 6 := hml0
  have hown : s.vm.findClass "com/example/mexo/mexo/lang/tla/expr/ExprNewFramePinLaw" = some m.cls := findClass_of_methodNamed Bd.named
  have hnm := (name_of_methodNamed Bd.named Bd.method).1
  have X0 : Stand p l e room_1 s m #[(.int p1), (.int p2)] below meth c s₁ [] 0 0 := Stand.of_body Bd
  have e0 : s₁.heap = h0 := by rw [← hh, Bd.state]; rfl
  have N0 := Fr.nil n0
  have pre0 : ∀ t, Steps p.tables e below (s₁.setTop (mkF m 0 #[.val (.int p1), .val (.int p2), .unset, .unset, .unset, .unset] [])) t → Steps p.tables e below (s₁.setTop (entryFrame m #[(.int p1), (.int p2)] maxLocals)) t := fun t k => castTop (ef_0z m p1 p2) k
  obtain ⟨_, _, ⟨T3, L3, k3, n3⟩, -, X3, ⟨Lc3, hQ3, l3, y3, z3⟩, st3⟩ := Jvm.LawKit.callS X0 hx (y := (⟨"com/example/mexo/mexo/lang/tla/expr/Expr", "newFrame", "(I)[Lcom/example/mexo/mexo/core/value/Value;"⟩ : MethodName)) hown (mvT hZ (hw _ (List.mem_of_getElem? (i := 0) rfl))) (mvT hZ (hw _ (List.mem_of_getElem? (i := 1) rfl))) (mvT hZ (hw _ (List.mem_of_getElem? (i := 2) rfl))) (mvT hZ (hw _ (List.mem_of_getElem? (i := 3) rfl))) (by decide) (backOf (W := 0) (rm1z l Z a0 hw [] (p1 &&& (31 : Int32)) s_NO_VALUES h0 n0 Z0 hz S_NO_VALUES) hZ (hw _ (List.mem_of_getElem? (i := 3) rfl)) (hw _ (List.mem_of_getElem? (i := 2) rfl)) (by decide) (by decide)) (g := (mkF m 6 #[.val (.int p1), .val (.int p2), .val (.int (p1 &&& (31 : Int32))), .unset, .unset, .unset] [(.int (p1 &&& (31 : Int32)))])) rfl (by rw [hml]; rfl) (argsL := [(.int (p1 &&& (31 : Int32)))]) (rest := []) (lenOf pd_0z_0 rfl) rfl (by show 2 * 0 + _ ≤ _; exact Nat.le_of_eq rfl) (hb hby at_6) (fun _ _ => ⟨rfl, e0, (by decide : 0 + 0 ≤ _), (by decide : 0 + 0 ≤ _)⟩)
  dsimp only [Pt.U, Pt.locs, Pt.cells, Pt.slots] at X3 l3 y3 z3 st3 hQ3
  subst l3 y3 z3
  obtain ⟨rfl, N3q, e3⟩ := hQ3
  have N3 := Fr.app N0 N3q
  obtain ⟨_, _, ⟨T4, L4, k4, n4⟩, -, X4, ⟨Lc4, hQ4, l4, y4, z4⟩, st4⟩ := Jvm.LawKit.callS X3 hx (y := (⟨"com/example/mexo/mexo/lang/tla/expr/Expr", "newFrame", "(I)[Lcom/example/mexo/mexo/core/value/Value;"⟩ : MethodName)) hown (mvT hZ (hw _ (List.mem_of_getElem? (i := 0) rfl))) (mvT hZ (hw _ (List.mem_of_getElem? (i := 1) rfl))) (mvT hZ (hw _ (List.mem_of_getElem? (i := 2) rfl))) (mvT hZ (hw _ (List.mem_of_getElem? (i := 3) rfl))) (by decide) (backOf (W := 0) (rm1z l Z a0 hw [] (p1 &&& (31 : Int32)) s_NO_VALUES h0 n0 Z0 hz S_NO_VALUES) hZ (hw _ (List.mem_of_getElem? (i := 3) rfl)) (hw _ (List.mem_of_getElem? (i := 2) rfl)) (by decide) (by decide)) (g := (mkF m 11 #[.val (.int p1), .val (.int p2), .val (.int (p1 &&& (31 : Int32))), .val (.ref s_NO_VALUES), .unset, .unset] [(.int (p1 &&& (31 : Int32)))])) rfl (by rw [hml]; rfl) (argsL := [(.int (p1 &&& (31 : Int32)))]) (rest := []) (lenOf pd_0z_0 rfl) rfl (by show 2 * 0 + _ ≤ _; exact Nat.le_of_eq rfl) (hb hby at_11) (fun _ _ => ⟨rfl, e3, (by decide : 0 + 0 ≤ _), (by decide : 0 + 0 ≤ _)⟩)
  dsimp only [Pt.U, Pt.locs, Pt.cells, Pt.slots] at X4 l4 y4 z4 st4 hQ4
  subst l4 y4 z4
  obtain ⟨rfl, N4q, e4⟩ := hQ4
  have N4 := Fr.app N3 N4q
  obtain ⟨cl5, Ar5, -, Sz5, Nn5, -, -⟩ := id V_NO
  obtain ⟨cl6, Ar6, -, Sz6, Nn6, -, -⟩ := id V_NO
  obtain ⟨T7, X7, e7, st7⟩ := getS2 X4 hx hZ hown (host := "") (Or.inl (hw _ (List.mem_of_getElem? (i := 6) rfl))) Via.refl e4 S_NO_VALUES (g := (mkF m 47 #[.val (.int p1), .val (.int p2), .val (.int (p1 &&& (31 : Int32))), .val (.ref s_NO_VALUES), .val (.ref s_NO_VALUES), .unset] [(.ref s_NO_VALUES)])) rfl (hb hby at_47)
  obtain ⟨T8, X8, e8, st8⟩ := getS2 X7 hx hZ hown (host := "") (Or.inl (hw _ (List.mem_of_getElem? (i := 6) rfl))) Via.refl e7 S_NO_VALUES (g := (mkF m 55 #[.val (.int p1), .val (.int p2), .val (.int (p1 &&& (31 : Int32))), .val (.ref s_NO_VALUES), .val (.ref s_NO_VALUES), .unset] [(.ref s_NO_VALUES)])) rfl (hb hby at_55)
  obtain ⟨T9, X9, e9, st9⟩ := getS2 X8 hx hZ hown (host := "") (Or.inl (hw _ (List.mem_of_getElem? (i := 6) rfl))) Via.refl e8 S_NO_VALUES (g := (mkF m 61 #[.val (.int p1), .val (.int p2), .val (.int (p1 &&& (31 : Int32))), .val (.ref s_NO_VALUES), .val (.ref s_NO_VALUES), .unset] [])) rfl (hb hby at_61)
  obtain ⟨cl10, Ar10, -, Sz10, Nn10, -, -⟩ := id V_NO
  obtain ⟨fs, hr, hrun, hended, hW, hsame⟩ := X9.leave (v := some (.int (1 : Int32))) (fun h => by rw [Bd.returns] at h; cases h)
  refine ⟨_, _, pre0 _ ?_, hrun, hended, _, _, rfl, ?_, ⟨_, rfl⟩, hW, hsame.mono (by decide) (by decide)⟩
  · show Steps p.tables e below (s₁.setTop (mkF m 0 #[.val (.int p1), .val (.int p2), .unset, .unset, .unset, .unset] [])) _
    refine XS.iloadN X0.here hx rfl (hb hby at_0) rfl ?_
    show Steps p.tables e below (s₁.setTop (mkF m 1 #[.val (.int p1), .val (.int p2), .unset, .unset, .unset, .unset] [(.int p1)])) _
    refine XS.bipush X0.here hx rfl (hb hby at_1) ?_
    show Steps p.tables e below (s₁.setTop (mkF m 3 #[.val (.int p1), .val (.int p2), .unset, .unset, .unset, .unset] [(.int (31 : Int32)), (.int p1)])) _
    refine XS.iand X0.here hx rfl (hb hby at_3) rfl ?_
    show Steps p.tables e below (s₁.setTop (mkF m 4 #[.val (.int p1), .val (.int p2), .unset, .unset, .unset, .unset] [(.int (p1 &&& (31 : Int32)))])) _
    refine XS.istoreN X0.here hx rfl (hb hby at_4) rfl (l' := #[.val (.int p1), .val (.int p2), .val (.int (p1 &&& (31 : Int32))), .unset, .unset, .unset]) rfl ?_
    show Steps p.tables e below (s₁.setTop (mkF m 5 #[.val (.int p1), .val (.int p2), .val (.int (p1 &&& (31 : Int32))), .unset, .unset, .unset] [])) _
    refine XS.iloadN X0.here hx rfl (hb hby at_5) rfl ?_
    show Steps p.tables e below (s₁.setTop (mkF m 6 #[.val (.int p1), .val (.int p2), .val (.int (p1 &&& (31 : Int32))), .unset, .unset, .unset] [(.int (p1 &&& (31 : Int32)))])) _
    refine st3 _ ?_
    show Steps p.tables e below (T3.setTop (mkF m 9 #[.val (.int p1), .val (.int p2), .val (.int (p1 &&& (31 : Int32))), .unset, .unset, .unset] [(.ref s_NO_VALUES)])) _
    refine XS.astoreN X3.here hx rfl (hb hby at_9) rfl rfl (l' := #[.val (.int p1), .val (.int p2), .val (.int (p1 &&& (31 : Int32))), .val (.ref s_NO_VALUES), .unset, .unset]) rfl ?_
    show Steps p.tables e below (T3.setTop (mkF m 10 #[.val (.int p1), .val (.int p2), .val (.int (p1 &&& (31 : Int32))), .val (.ref s_NO_VALUES), .unset, .unset] [])) _
    refine XS.iloadN X3.here hx rfl (hb hby at_10) rfl ?_
    show Steps p.tables e below (T3.setTop (mkF m 11 #[.val (.int p1), .val (.int p2), .val (.int (p1 &&& (31 : Int32))), .val (.ref s_NO_VALUES), .unset, .unset] [(.int (p1 &&& (31 : Int32)))])) _
    refine st4 _ ?_
    show Steps p.tables e below (T4.setTop (mkF m 14 #[.val (.int p1), .val (.int p2), .val (.int (p1 &&& (31 : Int32))), .val (.ref s_NO_VALUES), .unset, .unset] [(.ref s_NO_VALUES)])) _
    refine XS.astore X4.here hx rfl (hb hby at_14) rfl rfl (l' := #[.val (.int p1), .val (.int p2), .val (.int (p1 &&& (31 : Int32))), .val (.ref s_NO_VALUES), .val (.ref s_NO_VALUES), .unset]) rfl ?_
    show Steps p.tables e below (T4.setTop (mkF m 16 #[.val (.int p1), .val (.int p2), .val (.int (p1 &&& (31 : Int32))), .val (.ref s_NO_VALUES), .val (.ref s_NO_VALUES), .unset] [])) _
    refine XS.aloadN X4.here hx rfl (hb hby at_16) rfl rfl ?_
    show Steps p.tables e below (T4.setTop (mkF m 17 #[.val (.int p1), .val (.int p2), .val (.int (p1 &&& (31 : Int32))), .val (.ref s_NO_VALUES), .val (.ref s_NO_VALUES), .unset] [(.ref s_NO_VALUES)])) _
    refine XS.ifnullNo X4.here hx rfl (hb hby at_17) rfl ?_
    show Steps p.tables e below (T4.setTop (mkF m 20 #[.val (.int p1), .val (.int p2), .val (.int (p1 &&& (31 : Int32))), .val (.ref s_NO_VALUES), .val (.ref s_NO_VALUES), .unset] [])) _
    refine XS.aload X4.here hx rfl (hb hby at_20) rfl rfl ?_
    show Steps p.tables e below (T4.setTop (mkF m 22 #[.val (.int p1), .val (.int p2), .val (.int (p1 &&& (31 : Int32))), .val (.ref s_NO_VALUES), .val (.ref s_NO_VALUES), .unset] [(.ref s_NO_VALUES)])) _
    refine XS.ifnonnullYes X4.here hx rfl (pc0 := 22) (pc' := 27) rfl (hb hby at_22) rfl (by decide) (by decide) ?_
    show Steps p.tables e below (T4.setTop (mkF m 27 #[.val (.int p1), .val (.int p2), .val (.int (p1 &&& (31 : Int32))), .val (.ref s_NO_VALUES), .val (.ref s_NO_VALUES), .unset] [])) _
    refine XS.aloadN X4.here hx rfl (hb hby at_27) rfl rfl ?_
    show Steps p.tables e below (T4.setTop (mkF m 28 #[.val (.int p1), .val (.int p2), .val (.int (p1 &&& (31 : Int32))), .val (.ref s_NO_VALUES), .val (.ref s_NO_VALUES), .unset] [(.ref s_NO_VALUES)])) _
    refine X4.arraylength hx (by rw [e4]; exact Ar5.1) (State.isArrayOf_alike hZ.alike Ar5.2.1) (g := (mkF m 28 #[.val (.int p1), .val (.int p2), .val (.int (p1 &&& (31 : Int32))), .val (.ref s_NO_VALUES), .val (.ref s_NO_VALUES), .unset] [(.ref s_NO_VALUES)])) rfl rfl (hb hby at_28) _ ?_
    rw [len_of Sz5 Nn5]
    show Steps p.tables e below (T4.setTop (mkF m 29 #[.val (.int p1), .val (.int p2), .val (.int (p1 &&& (31 : Int32))), .val (.ref s_NO_VALUES), .val (.ref s_NO_VALUES), .unset] [(.int (0 : Int32))])) _
    refine XS.iloadN X4.here hx rfl (hb hby at_29) rfl ?_
    show Steps p.tables e below (T4.setTop (mkF m 30 #[.val (.int p1), .val (.int p2), .val (.int (p1 &&& (31 : Int32))), .val (.ref s_NO_VALUES), .val (.ref s_NO_VALUES), .unset] [(.int (p1 &&& (31 : Int32))), (.int (0 : Int32))])) _
    refine XS.icmpNo X4.here hx rfl (hb hby at_30) rfl (teq (hz.symm : (0 : Int32) = (p1 &&& (31 : Int32)))).2 ?_
    show Steps p.tables e below (T4.setTop (mkF m 33 #[.val (.int p1), .val (.int p2), .val (.int (p1 &&& (31 : Int32))), .val (.ref s_NO_VALUES), .val (.ref s_NO_VALUES), .unset] [])) _
    refine XS.aload X4.here hx rfl (hb hby at_33) rfl rfl ?_
    show Steps p.tables e below (T4.setTop (mkF m 35 #[.val (.int p1), .val (.int p2), .val (.int (p1 &&& (31 : Int32))), .val (.ref s_NO_VALUES), .val (.ref s_NO_VALUES), .unset] [(.ref s_NO_VALUES)])) _
    refine X4.arraylength hx (by rw [e4]; exact Ar6.1) (State.isArrayOf_alike hZ.alike Ar6.2.1) (g := (mkF m 35 #[.val (.int p1), .val (.int p2), .val (.int (p1 &&& (31 : Int32))), .val (.ref s_NO_VALUES), .val (.ref s_NO_VALUES), .unset] [(.ref s_NO_VALUES)])) rfl rfl (hb hby at_35) _ ?_
    rw [len_of Sz6 Nn6]
    show Steps p.tables e below (T4.setTop (mkF m 36 #[.val (.int p1), .val (.int p2), .val (.int (p1 &&& (31 : Int32))), .val (.ref s_NO_VALUES), .val (.ref s_NO_VALUES), .unset] [(.int (0 : Int32))])) _
    refine XS.iloadN X4.here hx rfl (hb hby at_36) rfl ?_
    show Steps p.tables e below (T4.setTop (mkF m 37 #[.val (.int p1), .val (.int p2), .val (.int (p1 &&& (31 : Int32))), .val (.ref s_NO_VALUES), .val (.ref s_NO_VALUES), .unset] [(.int (p1 &&& (31 : Int32))), (.int (0 : Int32))])) _
    refine XS.icmpYes X4.here hx rfl (pc0 := 37) (pc' := 42) rfl (hb hby at_37) rfl (teq (hz.symm : (0 : Int32) = (p1 &&& (31 : Int32)))).1 (by decide) (by decide) ?_
    show Steps p.tables e below (T4.setTop (mkF m 42 #[.val (.int p1), .val (.int p2), .val (.int (p1 &&& (31 : Int32))), .val (.ref s_NO_VALUES), .val (.ref s_NO_VALUES), .unset] [])) _
    refine XS.iloadN X4.here hx rfl (hb hby at_42) rfl ?_
    show Steps p.tables e below (T4.setTop (mkF m 43 #[.val (.int p1), .val (.int p2), .val (.int (p1 &&& (31 : Int32))), .val (.ref s_NO_VALUES), .val (.ref s_NO_VALUES), .unset] [(.int (p1 &&& (31 : Int32)))])) _
    refine XS.ifNo X4.here hx rfl (hb hby at_43) rfl ((if0 _ _).trans (teq (hz : (p1 &&& (31 : Int32)) = (0 : Int32))).2) ?_
    show Steps p.tables e below (T4.setTop (mkF m 46 #[.val (.int p1), .val (.int p2), .val (.int (p1 &&& (31 : Int32))), .val (.ref s_NO_VALUES), .val (.ref s_NO_VALUES), .unset] [])) _
    refine XS.aloadN X4.here hx rfl (hb hby at_46) rfl rfl ?_
    show Steps p.tables e below (T4.setTop (mkF m 47 #[.val (.int p1), .val (.int p2), .val (.int (p1 &&& (31 : Int32))), .val (.ref s_NO_VALUES), .val (.ref s_NO_VALUES), .unset] [(.ref s_NO_VALUES)])) _
    refine st7 _ ?_
    show Steps p.tables e below (T7.setTop (mkF m 50 #[.val (.int p1), .val (.int p2), .val (.int (p1 &&& (31 : Int32))), .val (.ref s_NO_VALUES), .val (.ref s_NO_VALUES), .unset] [(.ref s_NO_VALUES), (.ref s_NO_VALUES)])) _
    refine Jvm.RoadKit.acmp (g := (mkF m 50 #[.val (.int p1), .val (.int p2), .val (.int (p1 &&& (31 : Int32))), .val (.ref s_NO_VALUES), .val (.ref s_NO_VALUES), .unset] [(.ref s_NO_VALUES), (.ref s_NO_VALUES)])) X7 hx rfl rfl rfl (pc0 := 50) (pc' := 53) (same := true) rfl (hb hby at_50) rfl (decide_eq_true rfl) (by decide) (by decide) ?_
    show Steps p.tables e below (T7.setTop (mkF m 53 #[.val (.int p1), .val (.int p2), .val (.int (p1 &&& (31 : Int32))), .val (.ref s_NO_VALUES), .val (.ref s_NO_VALUES), .unset] [])) _
    refine XS.aload X7.here hx rfl (hb hby at_53) rfl rfl ?_
    show Steps p.tables e below (T7.setTop (mkF m 55 #[.val (.int p1), .val (.int p2), .val (.int (p1 &&& (31 : Int32))), .val (.ref s_NO_VALUES), .val (.ref s_NO_VALUES), .unset] [(.ref s_NO_VALUES)])) _
    refine st8 _ ?_
    show Steps p.tables e below (T8.setTop (mkF m 58 #[.val (.int p1), .val (.int p2), .val (.int (p1 &&& (31 : Int32))), .val (.ref s_NO_VALUES), .val (.ref s_NO_VALUES), .unset] [(.ref s_NO_VALUES), (.ref s_NO_VALUES)])) _
    refine Jvm.RoadKit.acmp (g := (mkF m 58 #[.val (.int p1), .val (.int p2), .val (.int (p1 &&& (31 : Int32))), .val (.ref s_NO_VALUES), .val (.ref s_NO_VALUES), .unset] [(.ref s_NO_VALUES), (.ref s_NO_VALUES)])) X8 hx rfl rfl rfl (pc0 := 58) (pc' := 61) (same := true) rfl (hb hby at_58) rfl (decide_eq_true rfl) (by decide) (by decide) ?_
    show Steps p.tables e below (T8.setTop (mkF m 61 #[.val (.int p1), .val (.int p2), .val (.int (p1 &&& (31 : Int32))), .val (.ref s_NO_VALUES), .val (.ref s_NO_VALUES), .unset] [])) _
    refine st9 _ ?_
    show Steps p.tables e below (T9.setTop (mkF m 64 #[.val (.int p1), .val (.int p2), .val (.int (p1 &&& (31 : Int32))), .val (.ref s_NO_VALUES), .val (.ref s_NO_VALUES), .unset] [(.ref s_NO_VALUES)])) _
    refine X9.arraylength hx (by rw [e9]; exact Ar10.1) (State.isArrayOf_alike hZ.alike Ar10.2.1) (g := (mkF m 64 #[.val (.int p1), .val (.int p2), .val (.int (p1 &&& (31 : Int32))), .val (.ref s_NO_VALUES), .val (.ref s_NO_VALUES), .unset] [(.ref s_NO_VALUES)])) rfl rfl (hb hby at_64) _ ?_
    rw [len_of Sz10 Nn10]
    show Steps p.tables e below (T9.setTop (mkF m 65 #[.val (.int p1), .val (.int p2), .val (.int (p1 &&& (31 : Int32))), .val (.ref s_NO_VALUES), .val (.ref s_NO_VALUES), .unset] [(.int (0 : Int32))])) _
    refine XS.ifNo X9.here hx rfl (hb hby at_65) rfl ((if0 _ _).trans (teq (by decide : (0 : Int32) = (0 : Int32))).2) ?_
    show Steps p.tables e below (T9.setTop (mkF m 68 #[.val (.int p1), .val (.int p2), .val (.int (p1 &&& (31 : Int32))), .val (.ref s_NO_VALUES), .val (.ref s_NO_VALUES), .unset] [])) _
    refine XS.iconst X9.here hx rfl (hb hby at_68) ?_
    show Steps p.tables e below (T9.setTop (mkF m 69 #[.val (.int p1), .val (.int p2), .val (.int (p1 &&& (31 : Int32))), .val (.ref s_NO_VALUES), .val (.ref s_NO_VALUES), .unset] [(.int (1 : Int32))])) _
    refine XS.goto X9.here hx rfl (pc0 := 69) (pc' := 73) rfl (hb hby at_69) (by decide) (by decide) ?_
    show Steps p.tables e below (T9.setTop (mkF m 73 #[.val (.int p1), .val (.int p2), .val (.int (p1 &&& (31 : Int32))), .val (.ref s_NO_VALUES), .val (.ref s_NO_VALUES), .unset] [(.int (1 : Int32))])) _
    exact retN X9 hx (t := .boolean) Bd.returns (by simp) (hb hby at_73) hr
  · show Q0z Z p1 p2 kNO s_NO_VALUES h0 n0 _ T9.heap _
    rw [e9]
    exact ⟨rfl, N4⟩
theorem pn_0n : plainName "com/example/mexo/mexo/lang/tla/expr/ExprNewFramePinLaw" = true := by first | (simp [plainName, overriddenIn]; done) | decide +kernel
theorem pd_0n_0 : parseMethodDescriptor "(I)[Lcom/example/mexo/mexo/core/value/Value;" = some ⟨[.int], some (.array (.object "com/example/mexo/mexo/core/value/Value"))⟩ := by decide +kernel
theorem ef_0n (m : MethodId) (x0 : Int32) (x1 : Int32) : entryFrame m #[(.int x0), (.int x1)] maxLocals = mkF m 0 #[.val (.int x0), .val (.int x1), .unset, .unset, .unset, .unset] [] := by first | (simp [entryFrame, mkF, argsToLocals, Value.category, maxLocals]; done) | rfl
def Q0n (Z : State) (p1 : Int32) (p2 : Int32) (kNO : ClassId) (s_NO_VALUES : Addr) (h0 : Heap) (n0 : Nat) (v : Option Value) (h : Heap) (L : List Loc) : Prop := v = some (.int (1 : Int32)) ∧ Fr n0 L
set_option maxRecDepth 65536 in
set_option maxHeartbeats 40000000 in
theorem rm0n (l : Launch) (Z : State) (a0 : Array Value) (hw : ∀ d ∈ tables_1, d.before a0 Z = true) (ws : List Jvm.Cond) (p1 : Int32) (p2 : Int32) (kNO : ClassId) (s_NO_VALUES : Addr) (h0 : Heap) (n0 : Nat) (Z0 : n0 ≤ h0.size) (hz : ¬ ((p1 &&& (31 : Int32)) = (0 : Int32))) (V_NO : Arv Z h0 s_NO_VALUES kNO (Jvm.ClassFile.FieldType.object "com/example/mexo/mexo/core/value/Value") (0 : Int32) [] .null) (hnn : ¬ (p1 &&& (31 : Int32)) < 0) (hcap : (p1 &&& (31 : Int32)).toNatClampNeg ≤ 31) (hnz79 : (p1 &&& (31 : Int32)) ≠ 0) (S_NO_VALUES : Sta Z h0 "com/example/mexo/mexo/lang/tla/expr/Expr" "NO_VALUES" "[Lcom/example/mexo/mexo/core/value/Value;" (.ref s_NO_VALUES)) (hix106 : ¬ ((p2 &&& (2147483647 : Int32)) % (p1 &&& (31 : Int32))) < 0 ∧ ((p2 &&& (2147483647 : Int32)) % (p1 &&& (31 : Int32))) < (p1 &&& (31 : Int32))) (hix114 : ¬ ((p2 &&& (2147483647 : Int32)) % (p1 &&& (31 : Int32))) < 0 ∧ ((p2 &&& (2147483647 : Int32)) % (p1 &&& (31 : Int32))) < (p1 &&& (31 : Int32))) :
    MetFree l x (head1 (Jvm.Cond.code x code maxLocals ret :: ws) room_1) (fun a U => a = #[(.int p1), (.int p2)] ∧ Z.Warmed39 U.vm ∧ U.heap = h0) (fun _ _ _ _ _ => True) (fun _ U o U' => ∃ v L, o = .returned v ∧ Q0n Z p1 p2 kNO s_NO_VALUES h0 n0 v U'.heap L ∧ FrameEnd U o U' L room_1.cells room_1.slots) := by
  refine MetFree.of_bodySF (plainFor_of_name pn_0n) hisR ?_
  intro p e s m args below meth c s₁ Bd hml0 hP hK
  obtain ⟨rfl, hZ, hh⟩ := hP
  have hx := Bd.exec
  have hby := Bd.bytes
  have hml : c.maxLocals = 6 := hml0
  have hown : s.vm.findClass "com/example/mexo/mexo/lang/tla/expr/ExprNewFramePinLaw" = some m.cls := findClass_of_methodNamed Bd.named
  have hnm := (name_of_methodNamed Bd.named Bd.method).1
  have X0 : Stand p l e room_1 s m #[(.int p1), (.int p2)] below meth c s₁ [] 0 0 := Stand.of_body Bd
  have e0 : s₁.heap = h0 := by rw [← hh, Bd.state]; rfl
  have N0 := Fr.nil n0
  have pre0 : ∀ t, Steps p.tables e below (s₁.setTop (mkF m 0 #[.val (.int p1), .val (.int p2), .unset, .unset, .unset, .unset] [])) t → Steps p.tables e below (s₁.setTop (entryFrame m #[(.int p1), (.int p2)] maxLocals)) t := fun t k => castTop (ef_0n m p1 p2) k
  obtain ⟨_, _, ⟨T3, L3, k3, n3⟩, -, X3, ⟨Lc3, hQ3, l3, y3, z3⟩, st3⟩ := Jvm.LawKit.callS X0 hx (y := (⟨"com/example/mexo/mexo/lang/tla/expr/Expr", "newFrame", "(I)[Lcom/example/mexo/mexo/core/value/Value;"⟩ : MethodName)) hown (mvT hZ (hw _ (List.mem_of_getElem? (i := 0) rfl))) (mvT hZ (hw _ (List.mem_of_getElem? (i := 1) rfl))) (mvT hZ (hw _ (List.mem_of_getElem? (i := 2) rfl))) (mvT hZ (hw _ (List.mem_of_getElem? (i := 3) rfl))) (by decide) (backOf (W := 0) (rm1n l Z a0 hw [] (p1 &&& (31 : Int32)) h0 n0 Z0 hz hnn hcap) hZ (hw _ (List.mem_of_getElem? (i := 3) rfl)) (hw _ (List.mem_of_getElem? (i := 2) rfl)) (by decide) (by decide)) (g := (mkF m 6 #[.val (.int p1), .val (.int p2), .val (.int (p1 &&& (31 : Int32))), .unset, .unset, .unset] [(.int (p1 &&& (31 : Int32)))])) rfl (by rw [hml]; rfl) (argsL := [(.int (p1 &&& (31 : Int32)))]) (rest := []) (lenOf pd_0n_0 rfl) rfl (by show 2 * 0 + _ ≤ _; exact Nat.le_of_eq rfl) (hb hby at_6) (fun _ _ => ⟨rfl, e0, (by decide : 0 + 1 ≤ _), (by decide : 0 + 31 ≤ _)⟩)
  dsimp only [Pt.U, Pt.locs, Pt.cells, Pt.slots] at X3 l3 y3 z3 st3 hQ3
  subst l3 y3 z3
  obtain ⟨rfl, N3q, E3, ka3, V3⟩ := hQ3
  have N3 := Fr.app N0 N3q
  obtain ⟨b3, g3⟩ : ∃ z, z = h0.size := ⟨_, rfl⟩
  rw [← g3] at V3 st3
  have g_b3 : n0 ≤ b3 := Nat.le_trans Z0 (Nat.le_of_eq g3.symm)
  have sz_b3 : h0.size ≤ b3 := Nat.le_trans (Keep.refl h0 []).1 (Nat.le_of_eq g3.symm)
  have Z3 : n0 ≤ T3.heap.size := Nat.le_trans Z0 E3.1
  have KK3 := (Keep.ext (Keep.refl h0 []) E3)
  obtain ⟨_, _, ⟨T4, L4, k4, n4⟩, -, X4, ⟨Lc4, hQ4, l4, y4, z4⟩, st4⟩ := Jvm.LawKit.callS X3 hx (y := (⟨"com/example/mexo/mexo/lang/tla/expr/Expr", "newFrame", "(I)[Lcom/example/mexo/mexo/core/value/Value;"⟩ : MethodName)) hown (mvT hZ (hw _ (List.mem_of_getElem? (i := 0) rfl))) (mvT hZ (hw _ (List.mem_of_getElem? (i := 1) rfl))) (mvT hZ (hw _ (List.mem_of_getElem? (i := 2) rfl))) (mvT hZ (hw _ (List.mem_of_getElem? (i := 3) rfl))) (by decide) (backOf (W := 0) (rm1n l Z a0 hw [] (p1 &&& (31 : Int32)) T3.heap n0 Z3 hz hnn hcap) hZ (hw _ (List.mem_of_getElem? (i := 3) rfl)) (hw _ (List.mem_of_getElem? (i := 2) rfl)) (by decide) (by decide)) (g := (mkF m 11 #[.val (.int p1), .val (.int p2), .val (.int (p1 &&& (31 : Int32))), .val (.ref b3), .unset, .unset] [(.int (p1 &&& (31 : Int32)))])) rfl (by rw [hml]; rfl) (argsL := [(.int (p1 &&& (31 : Int32)))]) (rest := []) (lenOf pd_0n_0 rfl) rfl (by show 2 * 0 + _ ≤ _; exact Nat.le_of_eq rfl) (hb hby at_11) (fun _ _ => ⟨rfl, rfl, (by decide : 1 + 1 ≤ _), (by decide : 31 + 31 ≤ _)⟩)
  dsimp only [Pt.U, Pt.locs, Pt.cells, Pt.slots] at X4 l4 y4 z4 st4 hQ4
  subst l4 y4 z4
  have f5 := (V_NO.ext E3)
  obtain ⟨rfl, N4q, E4, ka4, V4⟩ := hQ4
  have N4 := Fr.app N3 N4q
  obtain ⟨b4, g4⟩ : ∃ z, z = T3.heap.size := ⟨_, rfl⟩
  rw [← g4] at V4 st4
  have g_b4 : n0 ≤ b4 := Nat.le_trans Z3 (Nat.le_of_eq g4.symm)
  have sz_b4 : h0.size ≤ b4 := Nat.le_trans KK3.1 (Nat.le_of_eq g4.symm)
  have Z4 : n0 ≤ T4.heap.size := Nat.le_trans Z3 E4.1
  have KK4 := (Keep.ext KK3 E4)
  have f6 := (V3.ext E4)
  obtain ⟨cl7, Ar7, -, Sz7, Nn7, -, -⟩ := id f6
  obtain ⟨cl8, Ar8, -, Sz8, Nn8, -, -⟩ := id V4
  have f9 := (Sta.ext E4 (Sta.ext E3 S_NO_VALUES))
  obtain ⟨T10, X10, e10, st10⟩ := getS2 X4 hx hZ hown (host := "") (Or.inl (hw _ (List.mem_of_getElem? (i := 6) rfl))) Via.refl rfl f9 (g := (mkF m 89 #[.val (.int p1), .val (.int p2), .val (.int (p1 &&& (31 : Int32))), .val (.ref b3), .val (.ref b4), .val (.int ((p2 &&& (2147483647 : Int32)) % (p1 &&& (31 : Int32))))] [(.ref b3)])) rfl (hb hby at_89)
  obtain ⟨T11, X11, e11, st11⟩ := getS2 X10 hx hZ hown (host := "") (Or.inl (hw _ (List.mem_of_getElem? (i := 6) rfl))) Via.refl e10 f9 (g := (mkF m 97 #[.val (.int p1), .val (.int p2), .val (.int (p1 &&& (31 : Int32))), .val (.ref b3), .val (.ref b4), .val (.int ((p2 &&& (2147483647 : Int32)) % (p1 &&& (31 : Int32))))] [(.ref b4)])) rfl (hb hby at_97)
  obtain ⟨cl12, Ar12, q12, Sz12, Nn12, Hh12, -⟩ := id f6
  have hin12 : ¬ (((p2 &&& (2147483647 : Int32)) % (p1 &&& (31 : Int32))) < 0 ∨ cl12.slots.size ≤ (((p2 &&& (2147483647 : Int32)) % (p1 &&& (31 : Int32)))).toNatClampNeg) := inb_of Sz12 hix106
  have hat12 := Has.at (v := .null) Hh12 hin12 rfl
  obtain ⟨cl13, Ar13, q13, Sz13, Nn13, Hh13, -⟩ := id V4
  have hin13 : ¬ (((p2 &&& (2147483647 : Int32)) % (p1 &&& (31 : Int32))) < 0 ∨ cl13.slots.size ≤ (((p2 &&& (2147483647 : Int32)) % (p1 &&& (31 : Int32)))).toNatClampNeg) := inb_of Sz13 hix114
  have hat13 := Has.at (v := .null) Hh13 hin13 rfl
  obtain ⟨fs, hr, hrun, hended, hW, hsame⟩ := X11.leave (v := some (.int (1 : Int32))) (fun h => by rw [Bd.returns] at h; cases h)
  refine ⟨_, _, pre0 _ ?_, hrun, hended, _, _, rfl, ?_, ⟨_, rfl⟩, hW, hsame.mono (by decide) (by decide)⟩
  · show Steps p.tables e below (s₁.setTop (mkF m 0 #[.val (.int p1), .val (.int p2), .unset, .unset, .unset, .unset] [])) _
    refine XS.iloadN X0.here hx rfl (hb hby at_0) rfl ?_
    show Steps p.tables e below (s₁.setTop (mkF m 1 #[.val (.int p1), .val (.int p2), .unset, .unset, .unset, .unset] [(.int p1)])) _
    refine XS.bipush X0.here hx rfl (hb hby at_1) ?_
    show Steps p.tables e below (s₁.setTop (mkF m 3 #[.val (.int p1), .val (.int p2), .unset, .unset, .unset, .unset] [(.int (31 : Int32)), (.int p1)])) _
    refine XS.iand X0.here hx rfl (hb hby at_3) rfl ?_
    show Steps p.tables e below (s₁.setTop (mkF m 4 #[.val (.int p1), .val (.int p2), .unset, .unset, .unset, .unset] [(.int (p1 &&& (31 : Int32)))])) _
    refine XS.istoreN X0.here hx rfl (hb hby at_4) rfl (l' := #[.val (.int p1), .val (.int p2), .val (.int (p1 &&& (31 : Int32))), .unset, .unset, .unset]) rfl ?_
    show Steps p.tables e below (s₁.setTop (mkF m 5 #[.val (.int p1), .val (.int p2), .val (.int (p1 &&& (31 : Int32))), .unset, .unset, .unset] [])) _
    refine XS.iloadN X0.here hx rfl (hb hby at_5) rfl ?_
    show Steps p.tables e below (s₁.setTop (mkF m 6 #[.val (.int p1), .val (.int p2), .val (.int (p1 &&& (31 : Int32))), .unset, .unset, .unset] [(.int (p1 &&& (31 : Int32)))])) _
    refine st3 _ ?_
    show Steps p.tables e below (T3.setTop (mkF m 9 #[.val (.int p1), .val (.int p2), .val (.int (p1 &&& (31 : Int32))), .unset, .unset, .unset] [(.ref b3)])) _
    refine XS.astoreN X3.here hx rfl (hb hby at_9) rfl rfl (l' := #[.val (.int p1), .val (.int p2), .val (.int (p1 &&& (31 : Int32))), .val (.ref b3), .unset, .unset]) rfl ?_
    show Steps p.tables e below (T3.setTop (mkF m 10 #[.val (.int p1), .val (.int p2), .val (.int (p1 &&& (31 : Int32))), .val (.ref b3), .unset, .unset] [])) _
    refine XS.iloadN X3.here hx rfl (hb hby at_10) rfl ?_
    show Steps p.tables e below (T3.setTop (mkF m 11 #[.val (.int p1), .val (.int p2), .val (.int (p1 &&& (31 : Int32))), .val (.ref b3), .unset, .unset] [(.int (p1 &&& (31 : Int32)))])) _
    refine st4 _ ?_
    show Steps p.tables e below (T4.setTop (mkF m 14 #[.val (.int p1), .val (.int p2), .val (.int (p1 &&& (31 : Int32))), .val (.ref b3), .unset, .unset] [(.ref b4)])) _
    refine XS.astore X4.here hx rfl (hb hby at_14) rfl rfl (l' := #[.val (.int p1), .val (.int p2), .val (.int (p1 &&& (31 : Int32))), .val (.ref b3), .val (.ref b4), .unset]) rfl ?_
    show Steps p.tables e below (T4.setTop (mkF m 16 #[.val (.int p1), .val (.int p2), .val (.int (p1 &&& (31 : Int32))), .val (.ref b3), .val (.ref b4), .unset] [])) _
    refine XS.aloadN X4.here hx rfl (hb hby at_16) rfl rfl ?_
    show Steps p.tables e below (T4.setTop (mkF m 17 #[.val (.int p1), .val (.int p2), .val (.int (p1 &&& (31 : Int32))), .val (.ref b3), .val (.ref b4), .unset] [(.ref b3)])) _
    refine XS.ifnullNo X4.here hx rfl (hb hby at_17) rfl ?_
    show Steps p.tables e below (T4.setTop (mkF m 20 #[.val (.int p1), .val (.int p2), .val (.int (p1 &&& (31 : Int32))), .val (.ref b3), .val (.ref b4), .unset] [])) _
    refine XS.aload X4.here hx rfl (hb hby at_20) rfl rfl ?_
    show Steps p.tables e below (T4.setTop (mkF m 22 #[.val (.int p1), .val (.int p2), .val (.int (p1 &&& (31 : Int32))), .val (.ref b3), .val (.ref b4), .unset] [(.ref b4)])) _
    refine XS.ifnonnullYes X4.here hx rfl (pc0 := 22) (pc' := 27) rfl (hb hby at_22) rfl (by decide) (by decide) ?_
    show Steps p.tables e below (T4.setTop (mkF m 27 #[.val (.int p1), .val (.int p2), .val (.int (p1 &&& (31 : Int32))), .val (.ref b3), .val (.ref b4), .unset] [])) _
    refine XS.aloadN X4.here hx rfl (hb hby at_27) rfl rfl ?_
    show Steps p.tables e below (T4.setTop (mkF m 28 #[.val (.int p1), .val (.int p2), .val (.int (p1 &&& (31 : Int32))), .val (.ref b3), .val (.ref b4), .unset] [(.ref b3)])) _
    refine X4.arraylength hx Ar7.1 (State.isArrayOf_alike hZ.alike Ar7.2.1) (g := (mkF m 28 #[.val (.int p1), .val (.int p2), .val (.int (p1 &&& (31 : Int32))), .val (.ref b3), .val (.ref b4), .unset] [(.ref b3)])) rfl rfl (hb hby at_28) _ ?_
    rw [len_of Sz7 Nn7]
    show Steps p.tables e below (T4.setTop (mkF m 29 #[.val (.int p1), .val (.int p2), .val (.int (p1 &&& (31 : Int32))), .val (.ref b3), .val (.ref b4), .unset] [(.int (p1 &&& (31 : Int32)))])) _
    refine XS.iloadN X4.here hx rfl (hb hby at_29) rfl ?_
    show Steps p.tables e below (T4.setTop (mkF m 30 #[.val (.int p1), .val (.int p2), .val (.int (p1 &&& (31 : Int32))), .val (.ref b3), .val (.ref b4), .unset] [(.int (p1 &&& (31 : Int32))), (.int (p1 &&& (31 : Int32)))])) _
    refine XS.icmpNo X4.here hx rfl (hb hby at_30) rfl (teq (rfl : (p1 &&& (31 : Int32)) = (p1 &&& (31 : Int32)))).2 ?_
    show Steps p.tables e below (T4.setTop (mkF m 33 #[.val (.int p1), .val (.int p2), .val (.int (p1 &&& (31 : Int32))), .val (.ref b3), .val (.ref b4), .unset] [])) _
    refine XS.aload X4.here hx rfl (hb hby at_33) rfl rfl ?_
    show Steps p.tables e below (T4.setTop (mkF m 35 #[.val (.int p1), .val (.int p2), .val (.int (p1 &&& (31 : Int32))), .val (.ref b3), .val (.ref b4), .unset] [(.ref b4)])) _
    refine X4.arraylength hx Ar8.1 (State.isArrayOf_alike hZ.alike Ar8.2.1) (g := (mkF m 35 #[.val (.int p1), .val (.int p2), .val (.int (p1 &&& (31 : Int32))), .val (.ref b3), .val (.ref b4), .unset] [(.ref b4)])) rfl rfl (hb hby at_35) _ ?_
    rw [len_of Sz8 Nn8]
    show Steps p.tables e below (T4.setTop (mkF m 36 #[.val (.int p1), .val (.int p2), .val (.int (p1 &&& (31 : Int32))), .val (.ref b3), .val (.ref b4), .unset] [(.int (p1 &&& (31 : Int32)))])) _
    refine XS.iloadN X4.here hx rfl (hb hby at_36) rfl ?_
    show Steps p.tables e below (T4.setTop (mkF m 37 #[.val (.int p1), .val (.int p2), .val (.int (p1 &&& (31 : Int32))), .val (.ref b3), .val (.ref b4), .unset] [(.int (p1 &&& (31 : Int32))), (.int (p1 &&& (31 : Int32)))])) _
    refine XS.icmpYes X4.here hx rfl (pc0 := 37) (pc' := 42) rfl (hb hby at_37) rfl (teq (rfl : (p1 &&& (31 : Int32)) = (p1 &&& (31 : Int32)))).1 (by decide) (by decide) ?_
    show Steps p.tables e below (T4.setTop (mkF m 42 #[.val (.int p1), .val (.int p2), .val (.int (p1 &&& (31 : Int32))), .val (.ref b3), .val (.ref b4), .unset] [])) _
    refine XS.iloadN X4.here hx rfl (hb hby at_42) rfl ?_
    show Steps p.tables e below (T4.setTop (mkF m 43 #[.val (.int p1), .val (.int p2), .val (.int (p1 &&& (31 : Int32))), .val (.ref b3), .val (.ref b4), .unset] [(.int (p1 &&& (31 : Int32)))])) _
    refine XS.ifYes X4.here hx rfl (pc0 := 43) (pc' := 74) rfl (hb hby at_43) rfl ((if0 _ _).trans (feq (hz : ¬ ((p1 &&& (31 : Int32)) = (0 : Int32)))).2) (by decide) (by decide) ?_
    show Steps p.tables e below (T4.setTop (mkF m 74 #[.val (.int p1), .val (.int p2), .val (.int (p1 &&& (31 : Int32))), .val (.ref b3), .val (.ref b4), .unset] [])) _
    refine XS.iloadN X4.here hx rfl (hb hby at_74) rfl ?_
    show Steps p.tables e below (T4.setTop (mkF m 75 #[.val (.int p1), .val (.int p2), .val (.int (p1 &&& (31 : Int32))), .val (.ref b3), .val (.ref b4), .unset] [(.int p2)])) _
    refine X4.ldcInt hx hown (mvT hZ (hw _ (List.mem_of_getElem? (i := 9) rfl))) (g := (mkF m 75 #[.val (.int p1), .val (.int p2), .val (.int (p1 &&& (31 : Int32))), .val (.ref b3), .val (.ref b4), .unset] [(.int p2)])) rfl (hb hby at_75) _ ?_
    show Steps p.tables e below (T4.setTop (mkF m 77 #[.val (.int p1), .val (.int p2), .val (.int (p1 &&& (31 : Int32))), .val (.ref b3), .val (.ref b4), .unset] [(.int (2147483647 : Int32)), (.int p2)])) _
    refine XS.iand X4.here hx rfl (hb hby at_77) rfl ?_
    show Steps p.tables e below (T4.setTop (mkF m 78 #[.val (.int p1), .val (.int p2), .val (.int (p1 &&& (31 : Int32))), .val (.ref b3), .val (.ref b4), .unset] [(.int (p2 &&& (2147483647 : Int32)))])) _
    refine XS.iloadN X4.here hx rfl (hb hby at_78) rfl ?_
    show Steps p.tables e below (T4.setTop (mkF m 79 #[.val (.int p1), .val (.int p2), .val (.int (p1 &&& (31 : Int32))), .val (.ref b3), .val (.ref b4), .unset] [(.int (p1 &&& (31 : Int32))), (.int (p2 &&& (2147483647 : Int32)))])) _
    refine iremM X4 hx rfl (hb hby at_79) rfl hnz79 ?_
    show Steps p.tables e below (T4.setTop (mkF m 80 #[.val (.int p1), .val (.int p2), .val (.int (p1 &&& (31 : Int32))), .val (.ref b3), .val (.ref b4), .unset] [(.int ((p2 &&& (2147483647 : Int32)) % (p1 &&& (31 : Int32))))])) _
    refine XS.istore X4.here hx rfl (hb hby at_80) rfl (l' := #[.val (.int p1), .val (.int p2), .val (.int (p1 &&& (31 : Int32))), .val (.ref b3), .val (.ref b4), .val (.int ((p2 &&& (2147483647 : Int32)) % (p1 &&& (31 : Int32))))]) rfl ?_
    show Steps p.tables e below (T4.setTop (mkF m 82 #[.val (.int p1), .val (.int p2), .val (.int (p1 &&& (31 : Int32))), .val (.ref b3), .val (.ref b4), .val (.int ((p2 &&& (2147483647 : Int32)) % (p1 &&& (31 : Int32))))] [])) _
    refine XS.aloadN X4.here hx rfl (hb hby at_82) rfl rfl ?_
    show Steps p.tables e below (T4.setTop (mkF m 83 #[.val (.int p1), .val (.int p2), .val (.int (p1 &&& (31 : Int32))), .val (.ref b3), .val (.ref b4), .val (.int ((p2 &&& (2147483647 : Int32)) % (p1 &&& (31 : Int32))))] [(.ref b3)])) _
    refine XS.aload X4.here hx rfl (hb hby at_83) rfl rfl ?_
    show Steps p.tables e below (T4.setTop (mkF m 85 #[.val (.int p1), .val (.int p2), .val (.int (p1 &&& (31 : Int32))), .val (.ref b3), .val (.ref b4), .val (.int ((p2 &&& (2147483647 : Int32)) % (p1 &&& (31 : Int32))))] [(.ref b4), (.ref b3)])) _
    refine Jvm.RoadKit.acmp (g := (mkF m 85 #[.val (.int p1), .val (.int p2), .val (.int (p1 &&& (31 : Int32))), .val (.ref b3), .val (.ref b4), .val (.int ((p2 &&& (2147483647 : Int32)) % (p1 &&& (31 : Int32))))] [(.ref b4), (.ref b3)])) X4 hx rfl rfl rfl (pc0 := 85) (pc' := 88) (same := false) rfl (hb hby at_85) rfl (decide_eq_false fun q => (Nat.ne_of_lt (Nat.lt_of_lt_of_le V3.lt (Nat.le_of_eq g4.symm))) (Value.ref.inj q)) (by decide) (by decide) ?_
    show Steps p.tables e below (T4.setTop (mkF m 88 #[.val (.int p1), .val (.int p2), .val (.int (p1 &&& (31 : Int32))), .val (.ref b3), .val (.ref b4), .val (.int ((p2 &&& (2147483647 : Int32)) % (p1 &&& (31 : Int32))))] [])) _
    refine XS.aloadN X4.here hx rfl (hb hby at_88) rfl rfl ?_
    show Steps p.tables e below (T4.setTop (mkF m 89 #[.val (.int p1), .val (.int p2), .val (.int (p1 &&& (31 : Int32))), .val (.ref b3), .val (.ref b4), .val (.int ((p2 &&& (2147483647 : Int32)) % (p1 &&& (31 : Int32))))] [(.ref b3)])) _
    refine st10 _ ?_
    show Steps p.tables e below (T10.setTop (mkF m 92 #[.val (.int p1), .val (.int p2), .val (.int (p1 &&& (31 : Int32))), .val (.ref b3), .val (.ref b4), .val (.int ((p2 &&& (2147483647 : Int32)) % (p1 &&& (31 : Int32))))] [(.ref s_NO_VALUES), (.ref b3)])) _
    refine Jvm.RoadKit.acmp (g := (mkF m 92 #[.val (.int p1), .val (.int p2), .val (.int (p1 &&& (31 : Int32))), .val (.ref b3), .val (.ref b4), .val (.int ((p2 &&& (2147483647 : Int32)) % (p1 &&& (31 : Int32))))] [(.ref s_NO_VALUES), (.ref b3)])) X10 hx rfl rfl rfl (pc0 := 92) (pc' := 95) (same := false) rfl (hb hby at_92) rfl (decide_eq_false fun q => (Ne.symm (Nat.ne_of_lt (Nat.lt_of_lt_of_le V_NO.lt sz_b3))) (Value.ref.inj q)) (by decide) (by decide) ?_
    show Steps p.tables e below (T10.setTop (mkF m 95 #[.val (.int p1), .val (.int p2), .val (.int (p1 &&& (31 : Int32))), .val (.ref b3), .val (.ref b4), .val (.int ((p2 &&& (2147483647 : Int32)) % (p1 &&& (31 : Int32))))] [])) _
    refine XS.aload X10.here hx rfl (hb hby at_95) rfl rfl ?_
    show Steps p.tables e below (T10.setTop (mkF m 97 #[.val (.int p1), .val (.int p2), .val (.int (p1 &&& (31 : Int32))), .val (.ref b3), .val (.ref b4), .val (.int ((p2 &&& (2147483647 : Int32)) % (p1 &&& (31 : Int32))))] [(.ref b4)])) _
    refine st11 _ ?_
    show Steps p.tables e below (T11.setTop (mkF m 100 #[.val (.int p1), .val (.int p2), .val (.int (p1 &&& (31 : Int32))), .val (.ref b3), .val (.ref b4), .val (.int ((p2 &&& (2147483647 : Int32)) % (p1 &&& (31 : Int32))))] [(.ref s_NO_VALUES), (.ref b4)])) _
    refine Jvm.RoadKit.acmp (g := (mkF m 100 #[.val (.int p1), .val (.int p2), .val (.int (p1 &&& (31 : Int32))), .val (.ref b3), .val (.ref b4), .val (.int ((p2 &&& (2147483647 : Int32)) % (p1 &&& (31 : Int32))))] [(.ref s_NO_VALUES), (.ref b4)])) X11 hx rfl rfl rfl (pc0 := 100) (pc' := 103) (same := false) rfl (hb hby at_100) rfl (decide_eq_false fun q => (Ne.symm (Nat.ne_of_lt (Nat.lt_of_lt_of_le V_NO.lt sz_b4))) (Value.ref.inj q)) (by decide) (by decide) ?_
    show Steps p.tables e below (T11.setTop (mkF m 103 #[.val (.int p1), .val (.int p2), .val (.int (p1 &&& (31 : Int32))), .val (.ref b3), .val (.ref b4), .val (.int ((p2 &&& (2147483647 : Int32)) % (p1 &&& (31 : Int32))))] [])) _
    refine XS.aloadN X11.here hx rfl (hb hby at_103) rfl rfl ?_
    show Steps p.tables e below (T11.setTop (mkF m 104 #[.val (.int p1), .val (.int p2), .val (.int (p1 &&& (31 : Int32))), .val (.ref b3), .val (.ref b4), .val (.int ((p2 &&& (2147483647 : Int32)) % (p1 &&& (31 : Int32))))] [(.ref b3)])) _
    refine XS.iload X11.here hx rfl (hb hby at_104) rfl ?_
    show Steps p.tables e below (T11.setTop (mkF m 106 #[.val (.int p1), .val (.int p2), .val (.int (p1 &&& (31 : Int32))), .val (.ref b3), .val (.ref b4), .val (.int ((p2 &&& (2147483647 : Int32)) % (p1 &&& (31 : Int32))))] [(.int ((p2 &&& (2147483647 : Int32)) % (p1 &&& (31 : Int32)))), (.ref b3)])) _
    refine X11.aaload hx (j := ((p2 &&& (2147483647 : Int32)) % (p1 &&& (31 : Int32)))) (v := .null) (by rw [e11]; exact Ar12.1) (State.isArrayOf_alike hZ.alike Ar12.2.1) rfl Ar12.2.2 hin12 hat12 (g := (mkF m 106 #[.val (.int p1), .val (.int p2), .val (.int (p1 &&& (31 : Int32))), .val (.ref b3), .val (.ref b4), .val (.int ((p2 &&& (2147483647 : Int32)) % (p1 &&& (31 : Int32))))] [(.int ((p2 &&& (2147483647 : Int32)) % (p1 &&& (31 : Int32)))), (.ref b3)])) rfl rfl (hb hby at_106) _ ?_
    show Steps p.tables e below (T11.setTop (mkF m 107 #[.val (.int p1), .val (.int p2), .val (.int (p1 &&& (31 : Int32))), .val (.ref b3), .val (.ref b4), .val (.int ((p2 &&& (2147483647 : Int32)) % (p1 &&& (31 : Int32))))] [.null])) _
    refine XS.ifnonnullNo X11.here hx rfl (hb hby at_107) rfl ?_
    show Steps p.tables e below (T11.setTop (mkF m 110 #[.val (.int p1), .val (.int p2), .val (.int (p1 &&& (31 : Int32))), .val (.ref b3), .val (.ref b4), .val (.int ((p2 &&& (2147483647 : Int32)) % (p1 &&& (31 : Int32))))] [])) _
    refine XS.aload X11.here hx rfl (hb hby at_110) rfl rfl ?_
    show Steps p.tables e below (T11.setTop (mkF m 112 #[.val (.int p1), .val (.int p2), .val (.int (p1 &&& (31 : Int32))), .val (.ref b3), .val (.ref b4), .val (.int ((p2 &&& (2147483647 : Int32)) % (p1 &&& (31 : Int32))))] [(.ref b4)])) _
    refine XS.iload X11.here hx rfl (hb hby at_112) rfl ?_
    show Steps p.tables e below (T11.setTop (mkF m 114 #[.val (.int p1), .val (.int p2), .val (.int (p1 &&& (31 : Int32))), .val (.ref b3), .val (.ref b4), .val (.int ((p2 &&& (2147483647 : Int32)) % (p1 &&& (31 : Int32))))] [(.int ((p2 &&& (2147483647 : Int32)) % (p1 &&& (31 : Int32)))), (.ref b4)])) _
    refine X11.aaload hx (j := ((p2 &&& (2147483647 : Int32)) % (p1 &&& (31 : Int32)))) (v := .null) (by rw [e11]; exact Ar13.1) (State.isArrayOf_alike hZ.alike Ar13.2.1) rfl Ar13.2.2 hin13 hat13 (g := (mkF m 114 #[.val (.int p1), .val (.int p2), .val (.int (p1 &&& (31 : Int32))), .val (.ref b3), .val (.ref b4), .val (.int ((p2 &&& (2147483647 : Int32)) % (p1 &&& (31 : Int32))))] [(.int ((p2 &&& (2147483647 : Int32)) % (p1 &&& (31 : Int32)))), (.ref b4)])) rfl rfl (hb hby at_114) _ ?_
    show Steps p.tables e below (T11.setTop (mkF m 115 #[.val (.int p1), .val (.int p2), .val (.int (p1 &&& (31 : Int32))), .val (.ref b3), .val (.ref b4), .val (.int ((p2 &&& (2147483647 : Int32)) % (p1 &&& (31 : Int32))))] [.null])) _
    refine XS.ifnonnullNo X11.here hx rfl (hb hby at_115) rfl ?_
    show Steps p.tables e below (T11.setTop (mkF m 118 #[.val (.int p1), .val (.int p2), .val (.int (p1 &&& (31 : Int32))), .val (.ref b3), .val (.ref b4), .val (.int ((p2 &&& (2147483647 : Int32)) % (p1 &&& (31 : Int32))))] [])) _
    refine XS.iconst X11.here hx rfl (hb hby at_118) ?_
    show Steps p.tables e below (T11.setTop (mkF m 119 #[.val (.int p1), .val (.int p2), .val (.int (p1 &&& (31 : Int32))), .val (.ref b3), .val (.ref b4), .val (.int ((p2 &&& (2147483647 : Int32)) % (p1 &&& (31 : Int32))))] [(.int (1 : Int32))])) _
    refine XS.goto X11.here hx rfl (pc0 := 119) (pc' := 123) rfl (hb hby at_119) (by decide) (by decide) ?_
    show Steps p.tables e below (T11.setTop (mkF m 123 #[.val (.int p1), .val (.int p2), .val (.int (p1 &&& (31 : Int32))), .val (.ref b3), .val (.ref b4), .val (.int ((p2 &&& (2147483647 : Int32)) % (p1 &&& (31 : Int32))))] [(.int (1 : Int32))])) _
    exact retN X11 hx (t := .boolean) Bd.returns (by simp) (hb hby at_123) hr
  · show Q0n Z p1 p2 kNO s_NO_VALUES h0 n0 _ T11.heap _
    rw [e11]
    exact ⟨rfl, N4⟩
set_option maxRecDepth 65536 in
set_option maxHeartbeats 40000000 in
theorem comes_1 {Post : Tables → Env → Array Value → State → Outcome → State → Prop} (hpost : ∀ tb e args s v u, (limb_1_1.after args s (.returned v) u = true ∧ limb_1_2.after args s (.returned v) u = true ∧ True) → FrameEnd s (.returned v) u (Jvm.fieldLocs frame_1_writes args s ++ Jvm.arrayLocs frame_1_arrays args s ++ Jvm.staticLocs frame_1_statics s) 16 192 → Post tb e args s (.returned v) u) :
    ArmFor flags0 classFile x code maxLocals ret World_1 tables_1 room_1 Calls_1 rest_1 Pre_1 Post := by
  intro l hfl _ _ p e ha hc hk s m args below hf hA hF happ hP
  obtain ⟨hcalls, hrest, hpre⟩ := hP
  obtain ⟨-, -, -, hnamed, -, -, -, hat⟩ := (Spec.applies_iff hf).mp happ
  obtain ⟨hg, hn⟩ := and_e (Cond.before_iff.mp (show (Jvm.Cond.and given_1 narrow_1).before args s = true from hpre))
  obtain ⟨c1, c2⟩ := and_e hg
  obtain ⟨c3, c4⟩ := and_e c2
  obtain ⟨w0, w1, rfl⟩ : ∃ w0 w1 : Value, args = #[w0, w1] := by
    have hs : args.size = 2 := by simpa [Cond.value, given_1] using c1
    obtain ⟨L⟩ := args
    match L, hs with
    | [w0, w1], _ => exact ⟨w0, w1, rfl⟩
  have hw := fun d (hd : d ∈ tables_1) => atoms_spec (ws := Jvm.Cond.code x code maxLocals ret :: tables_1) hat d (List.mem_cons_of_mem _ hd)
  have hfit : Fit s := fun {y c} hc i hi => by
    obtain ⟨ha, rfl⟩ := Array.getElem?_eq_some_iff.mp hc
    have q := List.all_eq_true.mp ((Array.all_eq_true_iff_forall_mem.mp hF) _ (Array.getElem_mem ha)) i (List.mem_range.mpr hi)
    simpa [Array.getElem?_eq_getElem hi] using q
  obtain ⟨i0, ei0⟩ := is_v c3
  obtain rfl : w0 = (.int i0) := Option.some.inj ei0
  obtain ⟨i1, ei1⟩ := is_v c4
  obtain rfl : w1 = (.int i1) := Option.some.inj ei1
  obtain ⟨c5, c6⟩ := and_e hn
  obtain ⟨s_NO_VALUES, ev_NO_VALUES⟩ := arr_v c5
  obtain ⟨cl_NO_VALUES, Ar_NO_VALUES⟩ := Arr.start ev_NO_VALUES c5
  have S_NO_VALUES := Sta.start ev_NO_VALUES (Or.inr ⟨(hw _ (List.mem_of_getElem? (i := 2) rfl)), (hw _ (List.mem_of_getElem? (i := 5) rfl))⟩)
  -- c5
  obtain ⟨lt_NO_VALUES, ln_NO_VALUES⟩ := own_len ev_NO_VALUES Ar_NO_VALUES c6
  have hd := own_and i0 31 (by decide)
  have V_NO : Arv s s.heap s_NO_VALUES cl_NO_VALUES.cls (Jvm.ClassFile.FieldType.object "com/example/mexo/mexo/core/value/Value") (0 : Int32) [] .null := Arv.start hfit Ar_NO_VALUES lt_NO_VALUES ln_NO_VALUES (by decide) rfl trivial
  by_cases hz : (i0 &&& (31 : Int32)) = (0 : Int32)
  · obtain ⟨n, o, h1, h2, h3, _, L, rfl, ⟨rfl, N⟩, hq⟩ := rm0z l s _ hw tables_1 i0 i1 cl_NO_VALUES.cls s_NO_VALUES s.heap s.heap.size (Nat.le_refl _) hz V_NO S_NO_VALUES p e ha hc hk s m _ below hf ((Spec.applies_iff_loose hf).mp happ).1 ⟨rfl, State.Warmed39.refl s, rfl⟩ trivial
    refine ⟨n, _, h1, h2, h3, hpost _ _ _ _ _ _ ⟨Cond.after_iff.mpr rfl, Cond.after_iff.mpr (eq_i res_at (Term.int_eval (1)) rfl), trivial⟩ ⟨hq.1, hq.2.1, (hq.2.2.sift fun y hy => Or.inr (N y hy)).mono (by decide) (by decide)⟩⟩
  · have hnn : ¬ (i0 &&& (31 : Int32)) < 0 := by rw [Int32.lt_iff_toInt_lt]; exact Int.not_lt.mpr hd.1
    have hcap : (i0 &&& (31 : Int32)).toNatClampNeg ≤ 31 := own_cap31 i0
    have hix : ¬ ((i1 &&& (2147483647 : Int32)) % (i0 &&& (31 : Int32))) < 0 ∧ ((i1 &&& (2147483647 : Int32)) % (i0 &&& (31 : Int32))) < (i0 &&& (31 : Int32)) := own_ix i0 i1 hz
    obtain ⟨n, o, h1, h2, h3, _, L, rfl, ⟨rfl, N⟩, hq⟩ := rm0n l s _ hw tables_1 i0 i1 cl_NO_VALUES.cls s_NO_VALUES s.heap s.heap.size (Nat.le_refl _) hz V_NO hnn hcap hz S_NO_VALUES hix hix p e ha hc hk s m _ below hf ((Spec.applies_iff_loose hf).mp happ).1 ⟨rfl, State.Warmed39.refl s, rfl⟩ trivial
    refine ⟨n, _, h1, h2, h3, hpost _ _ _ _ _ _ ⟨Cond.after_iff.mpr rfl, Cond.after_iff.mpr (eq_i res_at (Term.int_eval (1)) rfl), trivial⟩ ⟨hq.1, hq.2.1, (hq.2.2.sift fun y hy => Or.inr (N y hy)).mono (by decide) (by decide)⟩⟩
theorem main_1_1 : Claimed_1_1 := comes_1 fun _ _ _ _ _ _ h hF => ⟨h.1, hF⟩
theorem main_1_2 : Claimed_1_2 := comes_1 fun _ _ _ _ _ _ h hF => ⟨h.2.1, hF⟩
end Jvm.Pilot.@@N@@
namespace Jvm.Pilot.@@N@@
open Jvm Jvm.ClassFile Sem Op Lib Jvm.Free Jvm.Stand Jvm.Pilot.@@N@@.Jvm.D
/-! MADE BY PROGRAM (witnessworld.py) out of the Statement's table words and the real class files: 12 classes; the members and pool entries that the words name. The judged class is class 1, her method 1. -/
namespace start1
open Jvm.ClassFile
def u (s : String) : CpInfo := .utf8 (stringToUtf16 s)
/-- a pool by its gaps: so many unusable entries, then the entry; so many at the end -/
def gap : Nat → List CpInfo → List CpInfo
  | 0, r => r
  | n + 1, r => .unusable :: gap n r
def poolList (es : List (Nat × CpInfo)) (last : Nat) : List CpInfo := es.foldr (fun e r => gap e.1 (e.2 :: r)) (gap last [])
def pool (es : List (Nat × CpInfo)) (last : Nat) : Array CpInfo := ⟨poolList es last⟩
def fileOf (pool : Array CpInfo) (this : Nat) (attrs : Array Attribute := #[]) (ms : Array MethodInfo := #[]) (fl : Nat := 33) (sup : Nat := 0) (ifs : Array Nat := #[]) (fds : Array FieldInfo := #[]) : ClassFile where
  minorVersion := 0
  majorVersion := 65
  constantPool := pool
  accessFlags := fl
  thisClass := this
  superClass := sup
  interfaces := ifs
  fields := fds
  methods := ms
  attributes := attrs
def plain (name : String) (sup : Option ClassId) : Class where
  name := name
  kind := .ordinary
  loader := none
  accessFlags := 33
  super := sup
  interfaces := #[]
  cf := none
  fields := #[]
  methods := #[]
  instanceTypes := #[]
  staticTypes := #[]
  resolved := #[]
  callSites := []
  init := .initialized
  statics := none
  mirror := none

def pool0 : Array CpInfo := pool [(5, u "<init>"), (0, u "()V"), (1, .class_ 10), (1, u "java/lang/Object")] 113

def k0m0 : Method := { name := "<init>", desc := "()V", sig := { parameters := [], returnType := none }, accessFlags := 1, code := none }
/-- java/lang/Object -/
def k0 : Class := { plain "java/lang/Object" none with
  accessFlags := 33
  interfaces := #[]
  cf := some (fileOf pool0 8 #[] #[{ accessFlags := 1, nameIndex := 5, descriptorIndex := 6, attributes := #[] }] 33 0 #[] #[])
  fields := #[]
  methods := #[k0m0]
  instanceTypes := #[]
  staticTypes := #[]
  resolved := Array.replicate 124 none
  statics := none }

def pool1 : Array CpInfo := pool [(2, .class_ 4), (1, u "java/lang/Object"), (0, u "<init>"), (0, u "()V"), (0, .interfaceMethodref 8 9), (0, .class_ 10), (0, .nameAndType 11 12), (0, u "com/example/mexo/mexo/lang/tla/expr/Expr"), (0, u "newFrame"), (0, u "(I)[Lcom/example/mexo/mexo/core/value/Value;"), (0, .fieldref 8 14), (0, .nameAndType 15 16), (0, u "NO_VALUES"), (0, u "[Lcom/example/mexo/mexo/core/value/Value;"), (0, .integer 2147483647), (0, .class_ 19), (0, u "com/example/mexo/mexo/lang/tla/expr/ExprNewFramePinLaw"), (2, u "law"), (0, u "(II)Z")] 4

def k1m0 : Method := { name := "<init>", desc := "()V", sig := { parameters := [], returnType := none }, accessFlags := 2, code := none }
def k1c1 : Code := { maxStack := 2, maxLocals := 6, code := code, exceptionTable := #[], attributes := #[] }
def k1m1 : Method := { name := "law", desc := "(II)Z", sig := { parameters := [.int, .int], returnType := some .boolean }, accessFlags := 9, code := some k1c1 }
/-- com/example/mexo/mexo/lang/tla/expr/ExprNewFramePinLaw -/
def k1 : Class := { plain "com/example/mexo/mexo/lang/tla/expr/ExprNewFramePinLaw" (some 0) with
  accessFlags := 49
  interfaces := #[]
  cf := some (fileOf pool1 18 #[] #[{ accessFlags := 2, nameIndex := 5, descriptorIndex := 6, attributes := #[] }, { accessFlags := 9, nameIndex := 22, descriptorIndex := 23, attributes := #[] }] 49 2 #[] #[])
  fields := #[]
  methods := #[k1m0, k1m1]
  instanceTypes := #[]
  staticTypes := #[]
  resolved := Array.replicate 28 none
  statics := none }

def pool2 : Array CpInfo := pool [(1, .fieldref 2 3), (0, .class_ 4), (0, .nameAndType 5 6), (0, u "com/example/mexo/mexo/lang/tla/expr/Expr"), (0, u "NO_VALUES"), (0, u "[Lcom/example/mexo/mexo/core/value/Value;"), (0, .class_ 8), (0, u "com/example/mexo/mexo/core/value/Value"), (14, .class_ 24), (0, u "java/lang/Object"), (2, u "newFrame"), (0, u "(I)[Lcom/example/mexo/mexo/core/value/Value;")] 87

def k2c0 : Code := { maxStack := 1, maxLocals := 1, code := prog_148_method_3_code, exceptionTable := #[], attributes := #[] }
def k2m0 : Method := { name := "newFrame", desc := "(I)[Lcom/example/mexo/mexo/core/value/Value;", sig := { parameters := [.int], returnType := some (.array (.object "com/example/mexo/mexo/core/value/Value")) }, accessFlags := 9, code := some k2c0 }
/-- com/example/mexo/mexo/lang/tla/expr/Expr -/
def k2 : Class := { plain "com/example/mexo/mexo/lang/tla/expr/Expr" (some 0) with
  accessFlags := 1537
  interfaces := #[]
  cf := some (fileOf pool2 2 #[] #[{ accessFlags := 9, nameIndex := 27, descriptorIndex := 28, attributes := #[] }] 1537 23 #[] #[{ accessFlags := 25, nameIndex := 5, descriptorIndex := 6, attributes := #[] }])
  fields := #[{ name := "NO_VALUES", type := (.array (.object "com/example/mexo/mexo/core/value/Value")), accessFlags := 25, slot := 0, constantValue := 0 }]
  methods := #[k2m0]
  instanceTypes := #[]
  staticTypes := #[(.array (.object "com/example/mexo/mexo/core/value/Value"))]
  resolved := Array.replicate 116 none
  statics := some 0 }

def pool3 : Array CpInfo := pool [(1, .class_ 2), (0, u "java/lang/Comparable"), (0, .class_ 4), (0, u "java/lang/Object")] 7

/-- java/lang/Comparable -/
def k3 : Class := { plain "java/lang/Comparable" (some 0) with
  accessFlags := 1537
  interfaces := #[]
  cf := some (fileOf pool3 1 #[] #[] 1537 3 #[] #[])
  fields := #[]
  methods := #[]
  instanceTypes := #[]
  staticTypes := #[]
  resolved := Array.replicate 12 none
  statics := none }

def pool4 : Array CpInfo := pool [(2, .class_ 4), (1, u "com/example/mexo/mexo/core/value/Value"), (3, .class_ 10), (1, u "com/example/mexo/mexo/core/value/Value$Kind"), (8, .class_ 20), (0, u "java/lang/Object"), (0, .class_ 22), (0, u "java/lang/Comparable")] 13

/-- com/example/mexo/mexo/core/value/Value -/
def k4 : Class := { plain "com/example/mexo/mexo/core/value/Value" (some 0) with
  accessFlags := 1537
  interfaces := #[3]
  cf := some (fileOf pool4 2 #[.nestMembers #[8]] #[] 1537 19 #[21] #[])
  fields := #[]
  methods := #[]
  instanceTypes := #[]
  staticTypes := #[]
  resolved := Array.replicate 36 none
  statics := none }

def pool5 : Array CpInfo := pool [(1, u "java/lang/Cloneable"), (0, .class_ 1), (0, u "java/lang/Object"), (0, .class_ 3)] 3

/-- java/lang/Cloneable -/
def k5 : Class := { plain "java/lang/Cloneable" (some 0) with
  accessFlags := 1537
  interfaces := #[]
  cf := some (fileOf pool5 2 #[] #[] 1537 4 #[] #[])
  fields := #[]
  methods := #[]
  instanceTypes := #[]
  staticTypes := #[]
  resolved := Array.replicate 8 none
  statics := none }

def pool6 : Array CpInfo := pool [(1, u "java/io/Serializable"), (0, .class_ 1), (0, u "java/lang/Object"), (0, .class_ 3)] 3

/-- java/io/Serializable -/
def k6 : Class := { plain "java/io/Serializable" (some 0) with
  accessFlags := 1537
  interfaces := #[]
  cf := some (fileOf pool6 2 #[] #[] 1537 4 #[] #[])
  fields := #[]
  methods := #[]
  instanceTypes := #[]
  staticTypes := #[]
  resolved := Array.replicate 8 none
  statics := none }

/-- the primitive byte -/
def k7 : Class := { plain "byte" none with kind := .primitive 'B', accessFlags := 0x411 }
/-- [B -/
def k8 : Class := { plain "[B" (some 0) with kind := .array 7 .byte, interfaces := #[5, 6], accessFlags := 1041 }

/-- the primitive int -/
def k9 : Class := { plain "int" none with kind := .primitive 'I', accessFlags := 0x411 }
/-- [I -/
def k10 : Class := { plain "[I" (some 0) with kind := .array 9 .int, interfaces := #[5, 6], accessFlags := 1041 }

/-- [Lcom/example/mexo/mexo/core/value/Value; -/
def k11 : Class := { plain "[Lcom/example/mexo/mexo/core/value/Value;" (some 0) with kind := .array 4 (.object "com/example/mexo/mexo/core/value/Value"), interfaces := #[5, 6], accessFlags := 1041 }

def heap : Heap := #[{ cls := 2, slots := #[.ref 1], vm := .statics 2 },
  { cls := 11, slots := #[], vm := .none }]
def classes : Array Class := #[k0, k1, k2, k3, k4, k5, k6, k7, k8, k9, k10, k11]
def interned : List (Array UInt16 × Addr) := []
def slotsUsed : Nat := 1
def theMethod : MethodId := ⟨1, 1⟩
def args0 : Array Value := #[.int 5, .int 6]
def aboutOver (below : List Frame) : State where
  vm := { classes := classes, interned := interned.toArray }
  heap := heap
  slotsUsed := slotsUsed
  threads := #[{ frames := .invoking theMethod args0 :: below }]
def below0 : List Frame := [.native { method := ⟨0, 0⟩, args := #[] }]
def about1 : State := aboutOver below0
def p0 : Program := .bare "" "" ""
def e0 : Env := launch0.env 0 0 0
theorem w_frames : about1.frames = Frame.invoking theMethod args0 :: below0 := rfl
set_option maxRecDepth 65536 in
theorem w_args : argsFit about1.vm theMethod args0 = true := by decide +kernel
set_option maxRecDepth 65536 in
theorem w_heap : heapFits about1 = true := by decide +kernel
set_option maxRecDepth 65536 in
theorem w_runnable : about1.curStatus? = some .runnable := by decide +kernel
set_option maxRecDepth 65536 in
theorem w_alone : about1.alone = true := by decide +kernel
set_option maxRecDepth 65536 in
theorem w_named : about1.methodNamed? x = some theMethod := by decide +kernel
set_option maxRecDepth 65536 in
theorem w_hears : about1.hears theMethod below0 = true := by decide +kernel
set_option maxRecDepth 65536 in
theorem w_ripe : about1.ripe theMethod args0 below0 = true := by decide +kernel
theorem w_running : about1.status = .running := rfl
set_option maxRecDepth 65536 in
theorem w_room : about1.hasRoom e0.platform room_1 = true :=
  launch0.hasRoom_least _ room_1 (by decide +kernel) (by decide +kernel) (by decide +kernel) (by decide +kernel) (by decide +kernel) (by decide +kernel)
theorem allAtoms_all (ts : List Jvm.Cond) (a : Array Jvm.Value) (st : Jvm.State) : (allAtoms ts).before a st = ts.all (fun c => c.before a st) := by
  induction ts with
  | nil => rfl
  | cons c t ih =>
    show (Jvm.Cond.and c (allAtoms t)).before a st = _
    rw [Jvm.Cond.before_and, ih, List.all_cons]
def words1 : List Jvm.Cond := Jvm.Cond.code x code maxLocals ret :: tables_1
/-- a 'code' word, met by the world's own term for the bytes: nothing is compared byte by byte -/
theorem code_word {y : MethodName} {bytes : ByteArray} {mx : Nat} {rt : Option FieldType} {a : Array Value} {s : State} {m : MethodId} {meth : Method} {c : Code} (h1 : s.methodNamed? y = some m) (h2 : s.vm.method? m = some meth) (h3 : meth.code = some c) (h4 : c.code = bytes)
    (h5 : (c.maxLocals == mx && c.exceptionTable.isEmpty && decide (c.maxStack ≤ mostOperands) && decide (meth.sig.returnType = rt) && !meth.locks && decide (parseMethodDescriptor y.desc = some meth.sig)) = true) : (Jvm.Cond.code y bytes mx rt).before a s = true := by
  simp only [Bool.and_eq_true, beq_iff_eq, Bool.not_eq_true', decide_eq_true_eq] at h5
  obtain ⟨⟨⟨⟨⟨g1, g2⟩, g3⟩, g4⟩, g5⟩, g6⟩ := h5
  simp [Cond.before, Cond.holds, Cond.value, h1, h2, h3, h4, g1, g2, g3, g4, g5, g6]
def isCode : Jvm.Cond → Bool
  | .code _ _ _ _ => true
  | _ => false
theorem all_split {L : List Jvm.Cond} {P : Jvm.Cond → Bool} (h1 : L.all (fun c => isCode c || P c) = true) (h2 : ∀ c ∈ L.filter isCode, P c = true) : L.all P = true := by
  refine List.all_eq_true.mpr fun c hc => ?_
  have h := List.all_eq_true.mp h1 c hc
  rcases Bool.eq_false_or_eq_true (isCode c) with hi | hi
  · exact h2 c (List.mem_filter.mpr ⟨hc, hi⟩)
  · simpa [hi] using h
set_option maxRecDepth 65536 in
theorem w_c0 : (Jvm.Cond.code x code maxLocals ret).before args0 about1 = true := code_word (m := ⟨1, 1⟩) (meth := k1m1) (c := k1c1) (by decide +kernel) rfl rfl rfl (by decide +kernel)
set_option maxRecDepth 65536 in
theorem w_c1 : (Jvm.Cond.code ({ cls := "com/example/mexo/mexo/lang/tla/expr/Expr", name := "newFrame", desc := "(I)[Lcom/example/mexo/mexo/core/value/Value;" } : Jvm.MethodName) prog_148_method_3_code (1 : Nat) (Option.some (Jvm.ClassFile.FieldType.array (Jvm.ClassFile.FieldType.object "com/example/mexo/mexo/core/value/Value")))).before args0 about1 = true := code_word (m := ⟨2, 0⟩) (meth := k2m0) (c := k2c0) (by decide +kernel) rfl rfl rfl (by decide +kernel)
def codes1 : List Jvm.Cond := [Jvm.Cond.code x code maxLocals ret, Jvm.Cond.code ({ cls := "com/example/mexo/mexo/lang/tla/expr/Expr", name := "newFrame", desc := "(I)[Lcom/example/mexo/mexo/core/value/Value;" } : Jvm.MethodName) prog_148_method_3_code (1 : Nat) (Option.some (Jvm.ClassFile.FieldType.array (Jvm.ClassFile.FieldType.object "com/example/mexo/mexo/core/value/Value")))]
set_option maxRecDepth 65536 in
theorem codes_eq : words1.filter isCode = codes1 := rfl
theorem w_codes : ∀ c ∈ words1.filter isCode, c.before args0 about1 = true := by
  rw [codes_eq]
  intro c hc
  simp only [codes1, List.mem_cons, List.not_mem_nil, or_false] at hc
  rcases hc with rfl | rfl
  · exact w_c0
  · exact w_c1
set_option maxRecDepth 65536 in
theorem w_t1 : words1.all (fun c => isCode c || c.before args0 about1) = true := by decide +kernel
theorem w_tables : (allAtoms (Jvm.Cond.code x code maxLocals ret :: tables_1)).before args0 about1 = true := by
  rw [allAtoms_all]
  show words1.all (fun c => c.before args0 about1) = true
  refine all_split ?_ w_codes
  rw [w_t1]
set_option maxRecDepth 65536 in
theorem w_case : (Jvm.Cond.and given_1 narrow_1).before args0 about1 = true := by decide +kernel
theorem w_applies : (headSpec (Jvm.Cond.code x code maxLocals ret :: tables_1) room_1).applies x e0.platform about1 = true :=
  (Spec.applies_iff w_frames).mpr ⟨w_running, w_runnable, w_alone, w_named, w_hears, w_ripe, w_room, w_tables⟩
theorem atStart : AtStart classFile x code maxLocals ret World_1 tables_1 room_1 Calls_1 rest_1 Pre_1 launch0 p0 e0 about1 theMethod args0 below0 :=
  ⟨lists_1, trivial, launch0.admits_env _ _ _, launch0.least_env, fairChoices_fair.cas, fairChoices_fair.clock, w_frames, w_args, w_heap, w_applies, trivial, trivial, w_case⟩
end start1
theorem witness_1 : WitnessClaimed_1 := ⟨start1.p0, start1.e0, start1.about1, start1.theMethod, start1.args0, start1.below0, start1.atStart⟩
end Jvm.Pilot.@@N@@
