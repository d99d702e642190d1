import JvmDerived
import JvmDerived.Pilot.@@N@@Statement
import JvmDerived.Pilot.@@N@@Code
set_option linter.unusedVariables false
set_option linter.unusedSimpArgs false
namespace Jvm.RoadKit
open Sem ClassFile Op Lib Jvm.Stand Jvm.Free Jvm.LawKit
section New
variable {p : Program} {l : Launch} {e : Env} {R : Room} {s : State} {m : MethodId} {args : Array Value} {below : List Frame} {meth : Method} {c : Code} {T : State} {locs : List Loc} {cells slots : Nat}
theorem retI (X : Stand p l e R s m args below meth c T locs cells slots) (hx : p.tables.exec = Jvm.exec) {pc : Nat} {Ls : Array Slot} {z : Int32} {rest : List Value} (hret : meth.sig.returnType = some .int) (hd : decode c.code pc = .ok (.ireturn, 1)) {fs : List Frame}
    (hl : ∀ (f : JFrame) (acts : List Action), f.method = m → f.locked = none → f.entered = [] → (doReturn e (T.setTop f) acts (some (.int z))).1 = T.setFrames fs) : Steps p.tables e below (T.setTop (mkF m pc Ls (.int z :: rest))) (T.setFrames fs) :=
  retOut X hx hret rfl (Or.inl ⟨rfl, Or.inl rfl, _, rfl⟩) hd hl
end New
end Jvm.RoadKit
namespace Jvm.Pilot.@@N@@
open Jvm Jvm.ClassFile Sem Op Lib Jvm.Free Jvm.Stand Jvm.LawKit Jvm.RoadKit Bundle Jvm.Pilot.@@N@@.Jvm.D
theorem own_fldI {Z : State} {args : Array Value} {t : Term} {a : Addr} {C n d : String} {z : Int32} (ev : t.eval args Z none [] Z = some (.ref a)) (h : (Cond.eq (Term.field t C n d) (Term.int z)).value args Z none Z [] = some true) : Fld Z Z.heap a C n d (.int z) := by
  obtain ⟨x, y, h1, h2, k1, k2⟩ := cmp_v (Or.inl h)
  have e2 : y = .int z := (Option.some.inj h2).symm
  subst e2
  obtain ⟨w, rfl⟩ := k2
  have hq : (Cond.eq (Term.field t C n d) (Term.int z)).value args Z none Z [] = some (decide (w = z)) := by simp [Cond.value, h1, h2]
  have hw : w = z := gotT hq h
  subst hw
  exact Fld.start ((fld_at ev).symm.trans h1)
theorem own_fldJ {Z : State} {args : Array Value} {t : Term} {a : Addr} {C n d : String} {z : Int64} (ev : t.eval args Z none [] Z = some (.ref a)) (h : (Cond.eq (Term.field t C n d) (Term.long z)).value args Z none Z [] = some true) : Fld Z Z.heap a C n d (.long z) := by
  obtain ⟨x, y, h1, h2, k1, k2⟩ := cmp_v (Or.inl h)
  have e2 : y = .long z := (Option.some.inj h2).symm
  subst e2
  obtain ⟨w, rfl⟩ := k2
  have hq : (Cond.eq (Term.field t C n d) (Term.long z)).value args Z none Z [] = some (decide (w = z)) := eq_L h1 h2
  have hw : w = z := gotT hq h
  subst hw
  exact Fld.start ((fld_at ev).symm.trans h1)
theorem own_arrKeep {Z : State} {h h' : Heap} {ws : List Addr} {a : Addr} {c : Cell} {ty : FieldType} (F : Arr Z h a c ty) (K : Keep h h' ws) (q : a ∉ ws) : Arr Z h' a c ty := ⟨K.2.1 _ _ F.1 q, F.2⟩
theorem own_staKeep {Z : State} {h h' : Heap} {ws : List Addr} {C n d : String} {v : Value} (F : Sta Z h C n d v) (K : Keep h h' ws) (q : ∀ x ∈ ws, ∀ c : Cell, h[x]? = some c → c.vm.isStatics = false) : Sta Z h' C n d v := by
  obtain ⟨cf, i, k, f, st, cell, h1, h2, h3, h4, h5, h6, h7⟩ := F
  exact ⟨cf, i, k, f, st, cell, h1, h2, h3, h4, K.2.1 _ _ h5 (fun z => by rw [q _ z _ h5] at h6; cases h6), h6, h7⟩
def own_Mir (Z : State) (C : String) (mr : Addr) : Prop := ∃ (c : ClassId) (k : Class), Z.vm.findClass C = some c ∧ Z.vm.classes[c]? = some k ∧ k.mirror = some mr
theorem own_gcls {p : Program} {l : Launch} {e : Env} {R : Room} {s : State} {m : MethodId} {args : Array Value} {below : List Frame} {meth : Method} {c : Code} {T : State} {locs : List Loc} {cells slots : Nat} {Z : State} {h : Heap} {a : Addr} {a0 : Array Value} {own C : String} {index : Nat}
    (X : Stand p l e R s m args below meth c T locs cells slots) (hx : p.tables.exec = Jvm.exec) (hZ : Z.Warmed39 s.vm) (hown : s.vm.findClass own = some m.cls)
    (w1 : (Cond.methodLink own index ⟨"java/lang/Object", "getClass", "()Ljava/lang/Class;"⟩).before a0 Z = true) (w2 : (Cond.declares ⟨"java/lang/Object", "getClass", "()Ljava/lang/Class;"⟩).before a0 Z = true) (w4 : (Cond.selects C ⟨"java/lang/Object", "getClass", "()Ljava/lang/Class;"⟩ ⟨"java/lang/Object", "getClass", "()Ljava/lang/Class;"⟩).before a0 Z = true)
    (w5 : (Cond.instanceMethod ⟨"java/lang/Object", "getClass", "()Ljava/lang/Class;"⟩).before a0 Z = true) (w6 : (Cond.native ⟨"java/lang/Object", "getClass", "()Ljava/lang/Class;"⟩).before a0 Z = true) (eT : T.heap = h) (E : Exa Z h a C) {mr : Addr} (M : own_Mir Z C mr)
    {g : JFrame} (hg : g.method = m) (hsize : g.locals.size = c.maxLocals) {rest : List Value} (hs : g.stack = .ref a :: rest) (hd : decode c.code g.pc = .ok (.invokevirtual index, 3)) (hf : 1 ≤ R.frames) (hl : 2 * g.monitorRoom + (rest.map fun v => v.category).sum + (nativeFrameWords "java/lang/Object" "getClass" 1 + 11) ≤ R.locals) :
    ∃ T', Stand p l e R s m args below meth c T' locs cells slots ∧ T'.heap = h ∧ ∀ target, Steps p.tables e below (T'.setTop { g with pc := g.pc + 3, stack := .ref mr :: rest }) target → Steps p.tables e below (T.setTop g) target := by
  obtain ⟨cc, kc, m1, m2, m3⟩ := M
  obtain ⟨cB, kB, i1, i2, i3⟩ := isOf hZ eT E
  have i1' : Z.vm.findClass C = some cB := by rw [← hZ.alike.findClass]; exact i1
  cases i1'.symm.trans m1
  obtain ⟨k', r1, r2⟩ := hZ.alike.2.2 _ _ m2
  have w4' : (Cond.selects C ⟨"java/lang/Object", "getClass", "()Ljava/lang/Class;"⟩ ⟨"java/lang/Object", "getClass", "()Ljava/lang/Class;"⟩).before args s = true := mvT hZ w4
  obtain ⟨vm', X', st⟩ := X.getClassOf hx hown (mvT hZ w1) (mvT hZ w2) (notFace_of_selects w4') w4' (mvT hZ w5) (mvT hZ w6) i1 i3 r1 (by rw [r2]; exact m3) hg hsize hs hd hf hl
  exact ⟨_, X', eT, st⟩
theorem own_mask31 (x : Int32) : 0 ≤ (x &&& 2147483647).toInt := by
  have h := c_mask x 2147483647 31 (by decide) (by decide)
  rw [h]; exact Int.emod_nonneg _ (by decide)
theorem own_mod (x : Int32) (y : Int32) (d : Int) (hy : y.toInt = d) (hd : 0 < d) : 0 ≤ ((x &&& 2147483647) % y).toInt ∧ ((x &&& 2147483647) % y).toInt < d := by
  have h := (c_irem (x &&& 2147483647) y d hy).1 (own_mask31 x)
  rw [h]; exact ⟨Int.emod_nonneg _ (by omega), Int.emod_lt_of_pos _ hd⟩
theorem own_and (x m : Int32) (hm : 0 ≤ m.toInt) : 0 ≤ (x &&& m).toInt ∧ (x &&& m).toInt ≤ m.toInt := c_and x m hm
theorem own_upto3 (y : Int32) (h0 : 0 ≤ y.toInt) (h1 : y.toInt < 3) : y = 0 ∨ y = 1 ∨ y = 2 := by
  have h : y.toInt = 0 ∨ y.toInt = 1 ∨ y.toInt = 2 := by omega
  rcases h with h | h | h
  · exact Or.inl (Int32.toInt_inj.mp (h.trans rfl))
  · exact Or.inr (Or.inl (Int32.toInt_inj.mp (h.trans rfl)))
  · exact Or.inr (Or.inr ((Int32.toInt_inj.mp (h.trans rfl))))
theorem d3_0 : decode jdk_37_method_8_code 0 = .ok (.aload_n 1, 1) := by decide +kernel
theorem d3_1 : decode jdk_37_method_8_code 1 = .ok (.astore_n 2, 1) := by decide +kernel
theorem d3_2 : decode jdk_37_method_8_code 2 = .ok (.aload_n 0, 1) := by decide +kernel
theorem d3_3 : decode jdk_37_method_8_code 3 = .ok (.astore_n 3, 1) := by decide +kernel
theorem d3_4 : decode jdk_37_method_8_code 4 = .ok (.aload_n 3, 1) := by decide +kernel
theorem d3_5 : decode jdk_37_method_8_code 5 = .ok (.invokevirtual 29, 3) := by decide +kernel
theorem d3_8 : decode jdk_37_method_8_code 8 = .ok (.aload_n 2, 1) := by decide +kernel
theorem d3_9 : decode jdk_37_method_8_code 9 = .ok (.invokevirtual 29, 3) := by decide +kernel
theorem d3_12 : decode jdk_37_method_8_code 12 = .ok (.if_acmp .eq 22, 3) := by decide +kernel
theorem d3_34 : decode jdk_37_method_8_code 34 = .ok (.aload_n 3, 1) := by decide +kernel
theorem d3_35 : decode jdk_37_method_8_code 35 = .ok (.getfield 7, 3) := by decide +kernel
theorem d3_38 : decode jdk_37_method_8_code 38 = .ok (.aload_n 2, 1) := by decide +kernel
theorem d3_39 : decode jdk_37_method_8_code 39 = .ok (.getfield 7, 3) := by decide +kernel
theorem d3_42 : decode jdk_37_method_8_code 42 = .ok (.isub, 1) := by decide +kernel
theorem d3_43 : decode jdk_37_method_8_code 43 = .ok (.ireturn, 1) := by decide +kernel
theorem pn_3 : plainName "java/lang/Enum" = true := by first | (simp [plainName, overriddenIn]; done) | decide +kernel
theorem ef_3 (m : MethodId) (x0 : Addr) (x1 : Addr) : entryFrame m #[(.ref x0), (.ref x1)] 4 = mkF m 0 #[.val (.ref x0), .val (.ref x1), .unset, .unset] [] := by first | (simp [entryFrame, mkF, argsToLocals, Value.category]; done) | rfl
def Q3 (Z : State) (a1 : Addr) (a2 : Addr) (m_cls : Addr) (w5 : Int32) (w7 : Int32) (h0 : Heap) (n0 : Nat) (v : Option Value) (h : Heap) (L : List Loc) : Prop := v = some (.int (w5 - w7)) ∧ Fr n0 L ∧ h = h0
set_option maxRecDepth 65536 in
set_option maxHeartbeats 40000000 in
theorem rm3 (l : Launch) (Z : State) (a0 : Array Value) (hw : ∀ d ∈ tables_1, d.before a0 Z = true) (ws : List Jvm.Cond) (a1 : Addr) (a2 : Addr) (m_cls : Addr) (w5 : Int32) (w7 : Int32) (h0 : Heap) (n0 : Nat) (Z0 : n0 ≤ h0.size) (E_a1 : Exa Z h0 a1 "com/example/brass_wiring/brasswiring/GenericTypes$Assignability") (M_cls : own_Mir Z "com/example/brass_wiring/brasswiring/GenericTypes$Assignability" m_cls) (E_a2 : Exa Z h0 a2 "com/example/brass_wiring/brasswiring/GenericTypes$Assignability") (F_ordinal_a1 : Fld Z h0 a1 "java/lang/Enum" "ordinal" "I" (.int w5)) (F_ordinal_a2 : Fld Z h0 a2 "java/lang/Enum" "ordinal" "I" (.int w7)) :
    MetFree l (⟨"java/lang/Enum", "compareTo", "(Ljava/lang/Enum;)I"⟩ : MethodName) (head1 (Jvm.Cond.code (⟨"java/lang/Enum", "compareTo", "(Ljava/lang/Enum;)I"⟩ : MethodName) jdk_37_method_8_code 4 (some .int) :: ws) ({ frames := 1, cells := 0, slots := 0, locals := 15 } : Room)) (fun a U => a = #[(.ref a1), (.ref a2)] ∧ Z.Warmed39 U.vm ∧ U.heap = h0) (fun _ _ _ _ _ => True) (fun _ U o U' => ∃ v L, o = .returned v ∧ Q3 Z a1 a2 m_cls w5 w7 h0 n0 v U'.heap L ∧ FrameEnd U o U' L ({ frames := 1, cells := 0, slots := 0, locals := 15 } : Room).cells ({ frames := 1, cells := 0, slots := 0, locals := 15 } : Room).slots) := by
  refine MetFree.of_bodySF (plainFor_of_name pn_3) hisR ?_
  intro p e s m args below meth c s₁ Bd hml0 hP hK
  obtain ⟨rfl, hZ, hh⟩ := hP
  have hx := Bd.exec
  have hby := Bd.bytes
  have hml : c.maxLocals = 4 := hml0
  have hown : s.vm.findClass "java/lang/Enum" = some m.cls := findClass_of_methodNamed Bd.named
  have hnm := (name_of_methodNamed Bd.named Bd.method).1
  have X0 : Stand p l e ({ frames := 1, cells := 0, slots := 0, locals := 15 } : Room) s m #[(.ref a1), (.ref a2)] below meth c s₁ [] 0 0 := Stand.of_body Bd
  have e0 : s₁.heap = h0 := by rw [← hh, Bd.state]; rfl
  have N0 := Fr.nil n0
  have pre0 : ∀ t, Steps p.tables e below (s₁.setTop (mkF m 0 #[.val (.ref a1), .val (.ref a2), .unset, .unset] [])) t → Steps p.tables e below (s₁.setTop (entryFrame m #[(.ref a1), (.ref a2)] 4)) t := fun t k => castTop (ef_3 m a1 a2) k
  obtain ⟨T3, X3, e3, st3⟩ := own_gcls X0 hx hZ hown (hw _ (List.mem_of_getElem? (i := 20) rfl)) (hw _ (List.mem_of_getElem? (i := 21) rfl)) (hw _ (List.mem_of_getElem? (i := 23) rfl)) (hw _ (List.mem_of_getElem? (i := 22) rfl)) (hw _ (List.mem_of_getElem? (i := 24) rfl)) e0 E_a1 M_cls (g := (mkF m 5 #[.val (.ref a1), .val (.ref a2), .val (.ref a2), .val (.ref a1)] [(.ref a1)])) rfl (by rw [hml]; rfl) rfl (hb hby d3_5) (by decide) (by show 2 * 0 + 0 + (nativeFrameWords "java/lang/Object" "getClass" 1 + 11) ≤ _; decide)
  obtain ⟨T4, X4, e4, st4⟩ := own_gcls X3 hx hZ hown (hw _ (List.mem_of_getElem? (i := 20) rfl)) (hw _ (List.mem_of_getElem? (i := 21) rfl)) (hw _ (List.mem_of_getElem? (i := 23) rfl)) (hw _ (List.mem_of_getElem? (i := 22) rfl)) (hw _ (List.mem_of_getElem? (i := 24) rfl)) e3 E_a2 M_cls (g := (mkF m 9 #[.val (.ref a1), .val (.ref a2), .val (.ref a2), .val (.ref a1)] [(.ref a2), (.ref m_cls)])) rfl (by rw [hml]; rfl) rfl (hb hby d3_9) (by decide) (by show 2 * 0 + 1 + (nativeFrameWords "java/lang/Object" "getClass" 1 + 11) ≤ _; decide)
  obtain ⟨T6, X6, e6, st6⟩ := getF X4 hx hZ hown (host := "") (Or.inl (hw _ (List.mem_of_getElem? (i := 26) rfl))) Via.refl e4 F_ordinal_a1 (g := (mkF m 35 #[.val (.ref a1), .val (.ref a2), .val (.ref a2), .val (.ref a1)] [(.ref a1)])) rfl rfl (hb hby d3_35)
  obtain ⟨T8, X8, e8, st8⟩ := getF X6 hx hZ hown (host := "") (Or.inl (hw _ (List.mem_of_getElem? (i := 26) rfl))) Via.refl e6 F_ordinal_a2 (g := (mkF m 39 #[.val (.ref a1), .val (.ref a2), .val (.ref a2), .val (.ref a1)] [(.ref a2), (.int w5)])) rfl rfl (hb hby d3_39)
  obtain ⟨fs, hr, hrun, hended, hW, hsame⟩ := X8.leave (v := some (.int (w5 - w7))) (fun h => by rw [Bd.returns] at h; cases h)
  refine ⟨_, _, pre0 _ ?_, hrun, hended, _, _, rfl, ?_, ⟨_, rfl⟩, hW, hsame.mono (by decide) (by decide)⟩
  · show Steps p.tables e below (s₁.setTop (mkF m 0 #[.val (.ref a1), .val (.ref a2), .unset, .unset] [])) _
    refine XS.aloadN X0.here hx rfl (hb hby d3_0) rfl rfl ?_
    show Steps p.tables e below (s₁.setTop (mkF m 1 #[.val (.ref a1), .val (.ref a2), .unset, .unset] [(.ref a2)])) _
    refine XS.astoreN X0.here hx rfl (hb hby d3_1) rfl rfl (l' := #[.val (.ref a1), .val (.ref a2), .val (.ref a2), .unset]) rfl ?_
    show Steps p.tables e below (s₁.setTop (mkF m 2 #[.val (.ref a1), .val (.ref a2), .val (.ref a2), .unset] [])) _
    refine XS.aloadN X0.here hx rfl (hb hby d3_2) rfl rfl ?_
    show Steps p.tables e below (s₁.setTop (mkF m 3 #[.val (.ref a1), .val (.ref a2), .val (.ref a2), .unset] [(.ref a1)])) _
    refine XS.astoreN X0.here hx rfl (hb hby d3_3) rfl rfl (l' := #[.val (.ref a1), .val (.ref a2), .val (.ref a2), .val (.ref a1)]) rfl ?_
    show Steps p.tables e below (s₁.setTop (mkF m 4 #[.val (.ref a1), .val (.ref a2), .val (.ref a2), .val (.ref a1)] [])) _
    refine XS.aloadN X0.here hx rfl (hb hby d3_4) rfl rfl ?_
    show Steps p.tables e below (s₁.setTop (mkF m 5 #[.val (.ref a1), .val (.ref a2), .val (.ref a2), .val (.ref a1)] [(.ref a1)])) _
    refine st3 _ ?_
    show Steps p.tables e below (T3.setTop (mkF m 8 #[.val (.ref a1), .val (.ref a2), .val (.ref a2), .val (.ref a1)] [(.ref m_cls)])) _
    refine XS.aloadN X3.here hx rfl (hb hby d3_8) rfl rfl ?_
    show Steps p.tables e below (T3.setTop (mkF m 9 #[.val (.ref a1), .val (.ref a2), .val (.ref a2), .val (.ref a1)] [(.ref a2), (.ref m_cls)])) _
    refine st4 _ ?_
    show Steps p.tables e below (T4.setTop (mkF m 12 #[.val (.ref a1), .val (.ref a2), .val (.ref a2), .val (.ref a1)] [(.ref m_cls), (.ref m_cls)])) _
    refine Jvm.RoadKit.acmp (g := (mkF m 12 #[.val (.ref a1), .val (.ref a2), .val (.ref a2), .val (.ref a1)] [(.ref m_cls), (.ref m_cls)])) X4 hx rfl rfl rfl (pc0 := 12) (pc' := 34) (same := true) rfl (hb hby d3_12) rfl (decide_eq_true rfl) (by decide) (by decide) ?_
    show Steps p.tables e below (T4.setTop (mkF m 34 #[.val (.ref a1), .val (.ref a2), .val (.ref a2), .val (.ref a1)] [])) _
    refine XS.aloadN X4.here hx rfl (hb hby d3_34) rfl rfl ?_
    show Steps p.tables e below (T4.setTop (mkF m 35 #[.val (.ref a1), .val (.ref a2), .val (.ref a2), .val (.ref a1)] [(.ref a1)])) _
    refine st6 _ ?_
    show Steps p.tables e below (T6.setTop (mkF m 38 #[.val (.ref a1), .val (.ref a2), .val (.ref a2), .val (.ref a1)] [(.int w5)])) _
    refine XS.aloadN X6.here hx rfl (hb hby d3_38) rfl rfl ?_
    show Steps p.tables e below (T6.setTop (mkF m 39 #[.val (.ref a1), .val (.ref a2), .val (.ref a2), .val (.ref a1)] [(.ref a2), (.int w5)])) _
    refine st8 _ ?_
    show Steps p.tables e below (T8.setTop (mkF m 42 #[.val (.ref a1), .val (.ref a2), .val (.ref a2), .val (.ref a1)] [(.int w7), (.int w5)])) _
    refine XS.isub X8.here hx rfl (hb hby d3_42) rfl ?_
    show Steps p.tables e below (T8.setTop (mkF m 43 #[.val (.ref a1), .val (.ref a2), .val (.ref a2), .val (.ref a1)] [(.int (w5 - w7))])) _
    exact retI X8 hx Bd.returns (hb hby d3_43) hr
  · show Q3 Z a1 a2 m_cls w5 w7 h0 n0 _ T8.heap _
    rw [e8]
    exact ⟨rfl, N0, rfl⟩
def own_f2 (a1 : Addr) (a2 : Addr) (w4 : Int32) (w5 : Int32) : Addr := (if (0 : Int32) < (w4 - w5) then a2 else a1)
theorem d2_0 : decode prog_7_method_5_code 0 = .ok (.aload_n 0, 1) := by decide +kernel
theorem d2_1 : decode prog_7_method_5_code 1 = .ok (.aload_n 1, 1) := by decide +kernel
theorem d2_2 : decode prog_7_method_5_code 2 = .ok (.invokevirtual 32, 3) := by decide +kernel
theorem d2_5 : decode prog_7_method_5_code 5 = .ok (.ifCond .gt 7, 3) := by decide +kernel
theorem d2_8 : decode prog_7_method_5_code 8 = .ok (.aload_n 0, 1) := by decide +kernel
theorem d2_9 : decode prog_7_method_5_code 9 = .ok (.goto 4, 3) := by decide +kernel
theorem d2_12 : decode prog_7_method_5_code 12 = .ok (.aload_n 1, 1) := by decide +kernel
theorem d2_13 : decode prog_7_method_5_code 13 = .ok (.areturn, 1) := by decide +kernel
theorem pn_2 : plainName "com/example/brass_wiring/brasswiring/GenericTypes$Assignability" = true := by first | (simp [plainName, overriddenIn]; done) | decide +kernel
theorem pd_2_0 : parseMethodDescriptor "(Ljava/lang/Enum;)I" = some ⟨[(.object "java/lang/Enum")], some .int⟩ := by decide +kernel
theorem ef_2 (m : MethodId) (x0 : Addr) (x1 : Addr) : entryFrame m #[(.ref x0), (.ref x1)] 2 = mkF m 0 #[.val (.ref x0), .val (.ref x1)] [] := by first | (simp [entryFrame, mkF, argsToLocals, Value.category]; done) | rfl
def Q2 (Z : State) (a1 : Addr) (a2 : Addr) (m_cls : Addr) (w4 : Int32) (w5 : Int32) (h0 : Heap) (n0 : Nat) (v : Option Value) (h : Heap) (L : List Loc) : Prop := v = some (.ref (own_f2 a1 a2 w4 w5)) ∧ Fr n0 L ∧ h = h0
set_option maxRecDepth 65536 in
set_option maxHeartbeats 40000000 in
theorem rm2 (l : Launch) (Z : State) (a0 : Array Value) (hw : ∀ d ∈ tables_1, d.before a0 Z = true) (ws : List Jvm.Cond) (a1 : Addr) (a2 : Addr) (m_cls : Addr) (w4 : Int32) (w5 : Int32) (h0 : Heap) (n0 : Nat) (Z0 : n0 ≤ h0.size) (E_a1 : Exa Z h0 a1 "com/example/brass_wiring/brasswiring/GenericTypes$Assignability") (M_cls : own_Mir Z "com/example/brass_wiring/brasswiring/GenericTypes$Assignability" m_cls) (E_a2 : Exa Z h0 a2 "com/example/brass_wiring/brasswiring/GenericTypes$Assignability") (F_ordinal_a1 : Fld Z h0 a1 "java/lang/Enum" "ordinal" "I" (.int w4)) (F_ordinal_a2 : Fld Z h0 a2 "java/lang/Enum" "ordinal" "I" (.int w5)) :
    MetFree l (⟨"com/example/brass_wiring/brasswiring/GenericTypes$Assignability", "and", "(Lcom/example/brass_wiring/brasswiring/GenericTypes$Assignability;)Lcom/example/brass_wiring/brasswiring/GenericTypes$Assignability;"⟩ : MethodName) (head1 (Jvm.Cond.code (⟨"com/example/brass_wiring/brasswiring/GenericTypes$Assignability", "and", "(Lcom/example/brass_wiring/brasswiring/GenericTypes$Assignability;)Lcom/example/brass_wiring/brasswiring/GenericTypes$Assignability;"⟩ : MethodName) prog_7_method_5_code 2 (some (.object "com/example/brass_wiring/brasswiring/GenericTypes$Assignability")) :: ws) ({ frames := 2, cells := 0, slots := 0, locals := 30 } : Room)) (fun a U => a = #[(.ref a1), (.ref a2)] ∧ Z.Warmed39 U.vm ∧ U.heap = h0) (fun _ _ _ _ _ => True) (fun _ U o U' => ∃ v L, o = .returned v ∧ Q2 Z a1 a2 m_cls w4 w5 h0 n0 v U'.heap L ∧ FrameEnd U o U' L ({ frames := 2, cells := 0, slots := 0, locals := 30 } : Room).cells ({ frames := 2, cells := 0, slots := 0, locals := 30 } : Room).slots) := by
  refine MetFree.of_bodySF (plainFor_of_name pn_2) hisR ?_
  intro p e s m args below meth c s₁ Bd hml0 hP hK
  obtain ⟨rfl, hZ, hh⟩ := hP
  have hx := Bd.exec
  have hby := Bd.bytes
  have hml : c.maxLocals = 2 := hml0
  have hown : s.vm.findClass "com/example/brass_wiring/brasswiring/GenericTypes$Assignability" = some m.cls := findClass_of_methodNamed Bd.named
  have hnm := (name_of_methodNamed Bd.named Bd.method).1
  have X0 : Stand p l e ({ frames := 2, cells := 0, slots := 0, locals := 30 } : Room) s m #[(.ref a1), (.ref a2)] below meth c s₁ [] 0 0 := Stand.of_body Bd
  have e0 : s₁.heap = h0 := by rw [← hh, Bd.state]; rfl
  have N0 := Fr.nil n0
  have pre0 : ∀ t, Steps p.tables e below (s₁.setTop (mkF m 0 #[.val (.ref a1), .val (.ref a2)] [])) t → Steps p.tables e below (s₁.setTop (entryFrame m #[(.ref a1), (.ref a2)] 2)) t := fun t k => castTop (ef_2 m a1 a2) k
  obtain ⟨cq3, kq3, q3a, q3b, q3c⟩ := isOf hZ e0 E_a1
  obtain ⟨_, _, ⟨T3, L3, k3, n3⟩, -, X3, ⟨Lc3, hQ3, l3, y3, z3⟩, st3⟩ := X0.virtualBackUp hx (x := (⟨"com/example/brass_wiring/brasswiring/GenericTypes$Assignability", "compareTo", "(Ljava/lang/Enum;)I"⟩ : MethodName)) (y := (⟨"java/lang/Enum", "compareTo", "(Ljava/lang/Enum;)I"⟩ : MethodName)) (owner := "java/lang/Enum") hown (mvT hZ (hw _ (List.mem_of_getElem? (i := 13) rfl))) (mvT hZ (hw _ (List.mem_of_getElem? (i := 14) rfl))) (mvT hZ (hw _ (List.mem_of_getElem? (i := 15) rfl))) (by decide) (mvT hZ (hw _ (List.mem_of_getElem? (i := 17) rfl))) (mvT hZ (hw _ (List.mem_of_getElem? (i := 16) rfl))) (backOf (W := 0) (rm3 l Z a0 hw [] a1 a2 m_cls w4 w5 h0 n0 Z0 E_a1 M_cls E_a2 F_ordinal_a1 F_ordinal_a2) hZ (hw _ (List.mem_of_getElem? (i := 19) rfl)) (hw _ (List.mem_of_getElem? (i := 18) rfl)) (by decide) (by decide)) q3a q3c (g := (mkF m 2 #[.val (.ref a1), .val (.ref a2)] [(.ref a2), (.ref a1)])) rfl (by rw [hml]; rfl) (Steps.refl _) (argsL := [(.ref a2)]) (rest := []) (lenOf pd_2_0 rfl) rfl (by show 2 * 0 + _ ≤ _; exact Nat.le_of_eq rfl) (hb hby d2_2) (fun _ _ => ⟨rfl, e0, (by decide : 0 + 0 ≤ _), (by decide : 0 + 0 ≤ _)⟩)
  dsimp only [Pt.U, Pt.locs, Pt.cells, Pt.slots] at X3 l3 y3 z3 st3 hQ3
  subst l3 y3 z3
  obtain ⟨rfl, N3q, e3⟩ := hQ3
  have N3 := Fr.app N0 N3q
  have pr7 : ∀ t, Steps p.tables e below (T3.setTop (mkF m 5 #[.val (.ref a1), .val (.ref a2)] [(.int (w4 - w5))])) t → Steps p.tables e below (s₁.setTop (entryFrame m #[(.ref a1), (.ref a2)] 2)) t := by
    intro t k
    refine pre0 t ?_
    show Steps p.tables e below (s₁.setTop (mkF m 0 #[.val (.ref a1), .val (.ref a2)] [])) _
    refine XS.aloadN X0.here hx rfl (hb hby d2_0) rfl rfl ?_
    show Steps p.tables e below (s₁.setTop (mkF m 1 #[.val (.ref a1), .val (.ref a2)] [(.ref a1)])) _
    refine XS.aloadN X0.here hx rfl (hb hby d2_1) rfl rfl ?_
    show Steps p.tables e below (s₁.setTop (mkF m 2 #[.val (.ref a1), .val (.ref a2)] [(.ref a2), (.ref a1)])) _
    refine st3.trans ?_
    show Steps p.tables e below (T3.setTop (mkF m 5 #[.val (.ref a1), .val (.ref a2)] [(.int (w4 - w5))])) _
    exact k
  by_cases hc6 : (0 : Int32) < (w4 - w5)
  · obtain ⟨fs, hr, hrun, hended, hW, hsame⟩ := X3.leave (v := some (.ref a2)) (fun h => by rw [Bd.returns] at h; cases h)
    refine ⟨_, _, pr7 _ ?_, hrun, hended, _, _, rfl, ?_, ⟨_, rfl⟩, hW, hsame.mono (by decide) (by decide)⟩
    · show Steps p.tables e below (T3.setTop (mkF m 5 #[.val (.ref a1), .val (.ref a2)] [(.int (w4 - w5))])) _
      refine XS.ifYes X3.here hx rfl (pc0 := 5) (pc' := 12) rfl (hb hby d2_5) rfl ((if0 _ _).trans (tlt hc6).2.2.1) (by decide) (by decide) ?_
      show Steps p.tables e below (T3.setTop (mkF m 12 #[.val (.ref a1), .val (.ref a2)] [])) _
      refine XS.aloadN X3.here hx rfl (hb hby d2_12) rfl rfl ?_
      show Steps p.tables e below (T3.setTop (mkF m 13 #[.val (.ref a1), .val (.ref a2)] [(.ref a2)])) _
      exact retOut X3 hx Bd.returns rfl (Or.inr (Or.inr (Or.inr (Or.inr ⟨rfl, rfl, rfl⟩)))) (hb hby d2_13) hr
    · show Q2 Z a1 a2 m_cls w4 w5 h0 n0 _ T3.heap _
      rw [e3]
      exact ⟨(by rw [show (own_f2 a1 a2 w4 w5) = a2 from by unfold own_f2; rw [if_pos hc6]]), N3, rfl⟩
  · obtain ⟨fs, hr, hrun, hended, hW, hsame⟩ := X3.leave (v := some (.ref a1)) (fun h => by rw [Bd.returns] at h; cases h)
    refine ⟨_, _, pr7 _ ?_, hrun, hended, _, _, rfl, ?_, ⟨_, rfl⟩, hW, hsame.mono (by decide) (by decide)⟩
    · show Steps p.tables e below (T3.setTop (mkF m 5 #[.val (.ref a1), .val (.ref a2)] [(.int (w4 - w5))])) _
      refine XS.ifNo X3.here hx rfl (hb hby d2_5) rfl ((if0 _ _).trans (flt hc6).2.2.1) ?_
      show Steps p.tables e below (T3.setTop (mkF m 8 #[.val (.ref a1), .val (.ref a2)] [])) _
      refine XS.aloadN X3.here hx rfl (hb hby d2_8) rfl rfl ?_
      show Steps p.tables e below (T3.setTop (mkF m 9 #[.val (.ref a1), .val (.ref a2)] [(.ref a1)])) _
      refine XS.goto X3.here hx rfl (pc0 := 9) (pc' := 13) rfl (hb hby d2_9) (by decide) (by decide) ?_
      show Steps p.tables e below (T3.setTop (mkF m 13 #[.val (.ref a1), .val (.ref a2)] [(.ref a1)])) _
      exact retOut X3 hx Bd.returns rfl (Or.inr (Or.inr (Or.inr (Or.inr ⟨rfl, rfl, rfl⟩)))) (hb hby d2_13) hr
    · show Q2 Z a1 a2 m_cls w4 w5 h0 n0 _ T3.heap _
      rw [e3]
      exact ⟨(by rw [show (own_f2 a1 a2 w4 w5) = a1 from by unfold own_f2; rw [if_neg hc6]]), N3, rfl⟩
def own_f1 (p1 : Int32) (s_NONE : Addr) (s_OPEN : Addr) (s_EXACT : Addr) : Addr := (if ((p1 &&& (2147483647 : Int32)) % (3 : Int32)) = (0 : Int32) then s_NONE else (if ((p1 &&& (2147483647 : Int32)) % (3 : Int32)) = (1 : Int32) then s_OPEN else s_EXACT))
theorem d1_0 : decode method_2_code 0 = .ok (.iload_n 0, 1) := by decide +kernel
theorem d1_1 : decode method_2_code 1 = .ok (.ldc 7, 2) := by decide +kernel
theorem d1_3 : decode method_2_code 3 = .ok (.iand, 1) := by decide +kernel
theorem d1_4 : decode method_2_code 4 = .ok (.iconst 3, 1) := by decide +kernel
theorem d1_5 : decode method_2_code 5 = .ok (.irem, 1) := by decide +kernel
theorem d1_6 : decode method_2_code 6 = .ok (.istore_n 1, 1) := by decide +kernel
theorem d1_7 : decode method_2_code 7 = .ok (.iload_n 1, 1) := by decide +kernel
theorem d1_8 : decode method_2_code 8 = .ok (.ifCond .ne 7, 3) := by decide +kernel
theorem d1_11 : decode method_2_code 11 = .ok (.getstatic 8, 3) := by decide +kernel
theorem d1_14 : decode method_2_code 14 = .ok (.areturn, 1) := by decide +kernel
theorem d1_15 : decode method_2_code 15 = .ok (.iload_n 1, 1) := by decide +kernel
theorem d1_16 : decode method_2_code 16 = .ok (.iconst 1, 1) := by decide +kernel
theorem d1_17 : decode method_2_code 17 = .ok (.if_icmp .ne 7, 3) := by decide +kernel
theorem d1_20 : decode method_2_code 20 = .ok (.getstatic 14, 3) := by decide +kernel
theorem d1_23 : decode method_2_code 23 = .ok (.areturn, 1) := by decide +kernel
theorem d1_24 : decode method_2_code 24 = .ok (.getstatic 17, 3) := by decide +kernel
theorem d1_27 : decode method_2_code 27 = .ok (.areturn, 1) := by decide +kernel
theorem pn_1 : plainName "com/example/brass_wiring/brasswiring/AssignabilityAndPinLaw" = true := by first | (simp [plainName, overriddenIn]; done) | decide +kernel
theorem ef_1 (m : MethodId) (x0 : Int32) : entryFrame m #[(.int x0)] 2 = mkF m 0 #[.val (.int x0), .unset] [] := by first | (simp [entryFrame, mkF, argsToLocals, Value.category]; done) | rfl
def Q1 (Z : State) (p1 : Int32) (s_NONE : Addr) (s_OPEN : Addr) (s_EXACT : Addr) (h0 : Heap) (n0 : Nat) (v : Option Value) (h : Heap) (L : List Loc) : Prop := v = some (.ref (own_f1 p1 s_NONE s_OPEN s_EXACT)) ∧ Fr n0 L ∧ h = h0
set_option maxRecDepth 65536 in
set_option maxHeartbeats 40000000 in
theorem rm1 (l : Launch) (Z : State) (a0 : Array Value) (hw : ∀ d ∈ tables_1, d.before a0 Z = true) (ws : List Jvm.Cond) (p1 : Int32) (s_NONE : Addr) (s_OPEN : Addr) (s_EXACT : Addr) (h0 : Heap) (n0 : Nat) (Z0 : n0 ≤ h0.size) (S_NONE : Sta Z h0 "com/example/brass_wiring/brasswiring/GenericTypes$Assignability" "NONE" "Lcom/example/brass_wiring/brasswiring/GenericTypes$Assignability;" (.ref s_NONE)) (S_OPEN : Sta Z h0 "com/example/brass_wiring/brasswiring/GenericTypes$Assignability" "OPEN" "Lcom/example/brass_wiring/brasswiring/GenericTypes$Assignability;" (.ref s_OPEN)) (S_EXACT : Sta Z h0 "com/example/brass_wiring/brasswiring/GenericTypes$Assignability" "EXACT" "Lcom/example/brass_wiring/brasswiring/GenericTypes$Assignability;" (.ref s_EXACT)) :
    MetFree l (⟨"com/example/brass_wiring/brasswiring/AssignabilityAndPinLaw", "pick", "(I)Lcom/example/brass_wiring/brasswiring/GenericTypes$Assignability;"⟩ : MethodName) (head1 (Jvm.Cond.code (⟨"com/example/brass_wiring/brasswiring/AssignabilityAndPinLaw", "pick", "(I)Lcom/example/brass_wiring/brasswiring/GenericTypes$Assignability;"⟩ : MethodName) method_2_code 2 (some (.object "com/example/brass_wiring/brasswiring/GenericTypes$Assignability")) :: ws) ({ frames := 0, cells := 0, slots := 0, locals := 0 } : Room)) (fun a U => a = #[(.int p1)] ∧ Z.Warmed39 U.vm ∧ U.heap = h0) (fun _ _ _ _ _ => True) (fun _ U o U' => ∃ v L, o = .returned v ∧ Q1 Z p1 s_NONE s_OPEN s_EXACT h0 n0 v U'.heap L ∧ FrameEnd U o U' L ({ frames := 0, cells := 0, slots := 0, locals := 0 } : Room).cells ({ frames := 0, cells := 0, slots := 0, locals := 0 } : Room).slots) := by
  refine MetFree.of_bodySF (plainFor_of_name pn_1) hisR ?_
  intro p e s m args below meth c s₁ Bd hml0 hP hK
  obtain ⟨rfl, hZ, hh⟩ := hP
  have hx := Bd.exec
  have hby := Bd.bytes
  have hml : c.maxLocals = 2 := hml0
  have hown : s.vm.findClass "com/example/brass_wiring/brasswiring/AssignabilityAndPinLaw" = some m.cls := findClass_of_methodNamed Bd.named
  have hnm := (name_of_methodNamed Bd.named Bd.method).1
  have X0 : Stand p l e ({ frames := 0, cells := 0, slots := 0, locals := 0 } : Room) s m #[(.int p1)] below meth c s₁ [] 0 0 := Stand.of_body Bd
  have e0 : s₁.heap = h0 := by rw [← hh, Bd.state]; rfl
  have N0 := Fr.nil n0
  have pre0 : ∀ t, Steps p.tables e below (s₁.setTop (mkF m 0 #[.val (.int p1), .unset] [])) t → Steps p.tables e below (s₁.setTop (entryFrame m #[(.int p1)] 2)) t := fun t k => castTop (ef_1 m p1) k
  have pr3 : ∀ t, Steps p.tables e below (s₁.setTop (mkF m 8 #[.val (.int p1), .val (.int ((p1 &&& (2147483647 : Int32)) % (3 : Int32)))] [(.int ((p1 &&& (2147483647 : Int32)) % (3 : Int32)))])) t → Steps p.tables e below (s₁.setTop (entryFrame m #[(.int p1)] 2)) t := by
    intro t k
    refine pre0 t ?_
    show Steps p.tables e below (s₁.setTop (mkF m 0 #[.val (.int p1), .unset] [])) _
    refine XS.iloadN X0.here hx rfl (hb hby d1_0) rfl ?_
    show Steps p.tables e below (s₁.setTop (mkF m 1 #[.val (.int p1), .unset] [(.int p1)])) _
    refine X0.ldcInt hx hown (mvT hZ (hw _ (List.mem_of_getElem? (i := 4) rfl))) (g := (mkF m 1 #[.val (.int p1), .unset] [(.int p1)])) rfl (hb hby d1_1) _ ?_
    show Steps p.tables e below (s₁.setTop (mkF m 3 #[.val (.int p1), .unset] [(.int (2147483647 : Int32)), (.int p1)])) _
    refine XS.iand X0.here hx rfl (hb hby d1_3) rfl ?_
    show Steps p.tables e below (s₁.setTop (mkF m 4 #[.val (.int p1), .unset] [(.int (p1 &&& (2147483647 : Int32)))])) _
    refine XS.iconst X0.here hx rfl (hb hby d1_4) ?_
    show Steps p.tables e below (s₁.setTop (mkF m 5 #[.val (.int p1), .unset] [(.int (3 : Int32)), (.int (p1 &&& (2147483647 : Int32)))])) _
    refine iremM X0 hx rfl (hb hby d1_5) rfl (by decide) ?_
    show Steps p.tables e below (s₁.setTop (mkF m 6 #[.val (.int p1), .unset] [(.int ((p1 &&& (2147483647 : Int32)) % (3 : Int32)))])) _
    refine XS.istoreN X0.here hx rfl (hb hby d1_6) rfl (l' := #[.val (.int p1), .val (.int ((p1 &&& (2147483647 : Int32)) % (3 : Int32)))]) rfl ?_
    show Steps p.tables e below (s₁.setTop (mkF m 7 #[.val (.int p1), .val (.int ((p1 &&& (2147483647 : Int32)) % (3 : Int32)))] [])) _
    refine XS.iloadN X0.here hx rfl (hb hby d1_7) rfl ?_
    show Steps p.tables e below (s₁.setTop (mkF m 8 #[.val (.int p1), .val (.int ((p1 &&& (2147483647 : Int32)) % (3 : Int32)))] [(.int ((p1 &&& (2147483647 : Int32)) % (3 : Int32)))])) _
    exact k
  by_cases hc2 : ((p1 &&& (2147483647 : Int32)) % (3 : Int32)) = (0 : Int32)
  · obtain ⟨T4, X4, e4, st4⟩ := getS2 X0 hx hZ hown (host := "") (Or.inl (hw _ (List.mem_of_getElem? (i := 5) rfl))) Via.refl e0 S_NONE (g := (mkF m 11 #[.val (.int p1), .val (.int ((p1 &&& (2147483647 : Int32)) % (3 : Int32)))] [])) rfl (hb hby d1_11)
    obtain ⟨fs, hr, hrun, hended, hW, hsame⟩ := X4.leave (v := some (.ref s_NONE)) (fun h => by rw [Bd.returns] at h; cases h)
    refine ⟨_, _, pr3 _ ?_, hrun, hended, _, _, rfl, ?_, ⟨_, rfl⟩, hW, hsame.mono (by decide) (by decide)⟩
    · show Steps p.tables e below (s₁.setTop (mkF m 8 #[.val (.int p1), .val (.int ((p1 &&& (2147483647 : Int32)) % (3 : Int32)))] [(.int ((p1 &&& (2147483647 : Int32)) % (3 : Int32)))])) _
      refine XS.ifNo X0.here hx rfl (hb hby d1_8) rfl ((if0 _ _).trans (teq hc2).2) ?_
      show Steps p.tables e below (s₁.setTop (mkF m 11 #[.val (.int p1), .val (.int ((p1 &&& (2147483647 : Int32)) % (3 : Int32)))] [])) _
      refine st4 _ ?_
      show Steps p.tables e below (T4.setTop (mkF m 14 #[.val (.int p1), .val (.int ((p1 &&& (2147483647 : Int32)) % (3 : Int32)))] [(.ref s_NONE)])) _
      exact retOut X4 hx Bd.returns rfl (Or.inr (Or.inr (Or.inr (Or.inr ⟨rfl, rfl, rfl⟩)))) (hb hby d1_14) hr
    · show Q1 Z p1 s_NONE s_OPEN s_EXACT h0 n0 _ T4.heap _
      rw [e4]
      exact ⟨(by rw [show (own_f1 p1 s_NONE s_OPEN s_EXACT) = s_NONE from by unfold own_f1; rw [if_pos hc2]]), N0, rfl⟩
  · have pr6 : ∀ t, Steps p.tables e below (s₁.setTop (mkF m 17 #[.val (.int p1), .val (.int ((p1 &&& (2147483647 : Int32)) % (3 : Int32)))] [(.int (1 : Int32)), (.int ((p1 &&& (2147483647 : Int32)) % (3 : Int32)))])) t → Steps p.tables e below (s₁.setTop (entryFrame m #[(.int p1)] 2)) t := by
      intro t k
      refine pr3 t ?_
      show Steps p.tables e below (s₁.setTop (mkF m 8 #[.val (.int p1), .val (.int ((p1 &&& (2147483647 : Int32)) % (3 : Int32)))] [(.int ((p1 &&& (2147483647 : Int32)) % (3 : Int32)))])) _
      refine XS.ifYes X0.here hx rfl (pc0 := 8) (pc' := 15) rfl (hb hby d1_8) rfl ((if0 _ _).trans (feq hc2).2) (by decide) (by decide) ?_
      show Steps p.tables e below (s₁.setTop (mkF m 15 #[.val (.int p1), .val (.int ((p1 &&& (2147483647 : Int32)) % (3 : Int32)))] [])) _
      refine XS.iloadN X0.here hx rfl (hb hby d1_15) rfl ?_
      show Steps p.tables e below (s₁.setTop (mkF m 16 #[.val (.int p1), .val (.int ((p1 &&& (2147483647 : Int32)) % (3 : Int32)))] [(.int ((p1 &&& (2147483647 : Int32)) % (3 : Int32)))])) _
      refine XS.iconst X0.here hx rfl (hb hby d1_16) ?_
      show Steps p.tables e below (s₁.setTop (mkF m 17 #[.val (.int p1), .val (.int ((p1 &&& (2147483647 : Int32)) % (3 : Int32)))] [(.int (1 : Int32)), (.int ((p1 &&& (2147483647 : Int32)) % (3 : Int32)))])) _
      exact k
    by_cases hc5 : ((p1 &&& (2147483647 : Int32)) % (3 : Int32)) = (1 : Int32)
    · obtain ⟨T7, X7, e7, st7⟩ := getS2 X0 hx hZ hown (host := "") (Or.inl (hw _ (List.mem_of_getElem? (i := 30) rfl))) Via.refl e0 S_OPEN (g := (mkF m 20 #[.val (.int p1), .val (.int ((p1 &&& (2147483647 : Int32)) % (3 : Int32)))] [])) rfl (hb hby d1_20)
      obtain ⟨fs, hr, hrun, hended, hW, hsame⟩ := X7.leave (v := some (.ref s_OPEN)) (fun h => by rw [Bd.returns] at h; cases h)
      refine ⟨_, _, pr6 _ ?_, hrun, hended, _, _, rfl, ?_, ⟨_, rfl⟩, hW, hsame.mono (by decide) (by decide)⟩
      · show Steps p.tables e below (s₁.setTop (mkF m 17 #[.val (.int p1), .val (.int ((p1 &&& (2147483647 : Int32)) % (3 : Int32)))] [(.int (1 : Int32)), (.int ((p1 &&& (2147483647 : Int32)) % (3 : Int32)))])) _
        refine XS.icmpNo X0.here hx rfl (hb hby d1_17) rfl (teq hc5).2 ?_
        show Steps p.tables e below (s₁.setTop (mkF m 20 #[.val (.int p1), .val (.int ((p1 &&& (2147483647 : Int32)) % (3 : Int32)))] [])) _
        refine st7 _ ?_
        show Steps p.tables e below (T7.setTop (mkF m 23 #[.val (.int p1), .val (.int ((p1 &&& (2147483647 : Int32)) % (3 : Int32)))] [(.ref s_OPEN)])) _
        exact retOut X7 hx Bd.returns rfl (Or.inr (Or.inr (Or.inr (Or.inr ⟨rfl, rfl, rfl⟩)))) (hb hby d1_23) hr
      · show Q1 Z p1 s_NONE s_OPEN s_EXACT h0 n0 _ T7.heap _
        rw [e7]
        exact ⟨(by rw [show (own_f1 p1 s_NONE s_OPEN s_EXACT) = s_OPEN from by unfold own_f1; rw [if_neg hc2, if_pos hc5]]), N0, rfl⟩
    · obtain ⟨T8, X8, e8, st8⟩ := getS2 X0 hx hZ hown (host := "") (Or.inl (hw _ (List.mem_of_getElem? (i := 28) rfl))) Via.refl e0 S_EXACT (g := (mkF m 24 #[.val (.int p1), .val (.int ((p1 &&& (2147483647 : Int32)) % (3 : Int32)))] [])) rfl (hb hby d1_24)
      obtain ⟨fs, hr, hrun, hended, hW, hsame⟩ := X8.leave (v := some (.ref s_EXACT)) (fun h => by rw [Bd.returns] at h; cases h)
      refine ⟨_, _, pr6 _ ?_, hrun, hended, _, _, rfl, ?_, ⟨_, rfl⟩, hW, hsame.mono (by decide) (by decide)⟩
      · show Steps p.tables e below (s₁.setTop (mkF m 17 #[.val (.int p1), .val (.int ((p1 &&& (2147483647 : Int32)) % (3 : Int32)))] [(.int (1 : Int32)), (.int ((p1 &&& (2147483647 : Int32)) % (3 : Int32)))])) _
        refine XS.icmpYes X0.here hx rfl (pc0 := 17) (pc' := 24) rfl (hb hby d1_17) rfl (feq hc5).2 (by decide) (by decide) ?_
        show Steps p.tables e below (s₁.setTop (mkF m 24 #[.val (.int p1), .val (.int ((p1 &&& (2147483647 : Int32)) % (3 : Int32)))] [])) _
        refine st8 _ ?_
        show Steps p.tables e below (T8.setTop (mkF m 27 #[.val (.int p1), .val (.int ((p1 &&& (2147483647 : Int32)) % (3 : Int32)))] [(.ref s_EXACT)])) _
        exact retOut X8 hx Bd.returns rfl (Or.inr (Or.inr (Or.inr (Or.inr ⟨rfl, rfl, rfl⟩)))) (hb hby d1_27) hr
      · show Q1 Z p1 s_NONE s_OPEN s_EXACT h0 n0 _ T8.heap _
        rw [e8]
        exact ⟨(by rw [show (own_f1 p1 s_NONE s_OPEN s_EXACT) = s_EXACT from by unfold own_f1; rw [if_neg hc2, if_neg hc5]]), N0, rfl⟩
theorem pn_0 : plainName "com/example/brass_wiring/brasswiring/AssignabilityAndPinLaw" = true := by first | (simp [plainName, overriddenIn]; done) | decide +kernel
theorem pd_0_0 : parseMethodDescriptor "(I)Lcom/example/brass_wiring/brasswiring/GenericTypes$Assignability;" = some ⟨[.int], some (.object "com/example/brass_wiring/brasswiring/GenericTypes$Assignability")⟩ := by decide +kernel
theorem pd_0_1 : parseMethodDescriptor "(Lcom/example/brass_wiring/brasswiring/GenericTypes$Assignability;)Lcom/example/brass_wiring/brasswiring/GenericTypes$Assignability;" = some ⟨[(.object "com/example/brass_wiring/brasswiring/GenericTypes$Assignability")], some (.object "com/example/brass_wiring/brasswiring/GenericTypes$Assignability")⟩ := by decide +kernel
theorem ef_0 (m : MethodId) (x0 : Int32) (x1 : Int32) : entryFrame m #[(.int x0), (.int x1)] maxLocals = mkF m 0 #[.val (.int x0), .val (.int x1), .unset, .unset, .unset] [] := by first | (simp [entryFrame, mkF, argsToLocals, Value.category, maxLocals]; done) | rfl
def Q0 (Z : State) (p1 : Int32) (p2 : Int32) (s_NONE : Addr) (s_OPEN : Addr) (s_EXACT : Addr) (m_cls : Addr) (w10 : Int32) (w11 : Int32) (h0 : Heap) (n0 : Nat) (v : Option Value) (h : Heap) (L : List Loc) : Prop := v = some (.int (1 : Int32)) ∧ Fr n0 L
set_option maxRecDepth 65536 in
set_option maxHeartbeats 40000000 in
theorem rm0 (l : Launch) (Z : State) (a0 : Array Value) (hw : ∀ d ∈ tables_1, d.before a0 Z = true) (ws : List Jvm.Cond) (p1 : Int32) (p2 : Int32) (s_NONE : Addr) (s_OPEN : Addr) (s_EXACT : Addr) (m_cls : Addr) (w10 : Int32) (w11 : Int32) (h0 : Heap) (n0 : Nat) (Z0 : n0 ≤ h0.size) (S_NONE : Sta Z h0 "com/example/brass_wiring/brasswiring/GenericTypes$Assignability" "NONE" "Lcom/example/brass_wiring/brasswiring/GenericTypes$Assignability;" (.ref s_NONE)) (S_OPEN : Sta Z h0 "com/example/brass_wiring/brasswiring/GenericTypes$Assignability" "OPEN" "Lcom/example/brass_wiring/brasswiring/GenericTypes$Assignability;" (.ref s_OPEN)) (S_EXACT : Sta Z h0 "com/example/brass_wiring/brasswiring/GenericTypes$Assignability" "EXACT" "Lcom/example/brass_wiring/brasswiring/GenericTypes$Assignability;" (.ref s_EXACT)) (E_o1 : Exa Z h0 (own_f1 p1 s_NONE s_OPEN s_EXACT) "com/example/brass_wiring/brasswiring/GenericTypes$Assignability") (M_cls : own_Mir Z "com/example/brass_wiring/brasswiring/GenericTypes$Assignability" m_cls) (E_o2 : Exa Z h0 (own_f1 p2 s_NONE s_OPEN s_EXACT) "com/example/brass_wiring/brasswiring/GenericTypes$Assignability") (F_ordinal_o1 : Fld Z h0 (own_f1 p1 s_NONE s_OPEN s_EXACT) "java/lang/Enum" "ordinal" "I" (.int w10)) (F_ordinal_o2 : Fld Z h0 (own_f1 p2 s_NONE s_OPEN s_EXACT) "java/lang/Enum" "ordinal" "I" (.int w11)) (hq66_1 : ((own_f1 p1 s_NONE s_OPEN s_EXACT) = s_NONE) → (own_f2 (own_f1 p1 s_NONE s_OPEN s_EXACT) (own_f1 p2 s_NONE s_OPEN s_EXACT) w10 w11) = s_NONE) (hq66_2 : (¬ ((own_f1 p1 s_NONE s_OPEN s_EXACT) = s_NONE)) → ((own_f1 p2 s_NONE s_OPEN s_EXACT) = s_NONE) → (own_f2 (own_f1 p1 s_NONE s_OPEN s_EXACT) (own_f1 p2 s_NONE s_OPEN s_EXACT) w10 w11) = s_NONE) (hq66_3 : (¬ ((own_f1 p1 s_NONE s_OPEN s_EXACT) = s_NONE)) → (¬ ((own_f1 p2 s_NONE s_OPEN s_EXACT) = s_NONE)) → ((own_f1 p1 s_NONE s_OPEN s_EXACT) = s_OPEN) → (own_f2 (own_f1 p1 s_NONE s_OPEN s_EXACT) (own_f1 p2 s_NONE s_OPEN s_EXACT) w10 w11) = s_OPEN) (hq66_4 : (¬ ((own_f1 p1 s_NONE s_OPEN s_EXACT) = s_NONE)) → (¬ ((own_f1 p2 s_NONE s_OPEN s_EXACT) = s_NONE)) → (¬ ((own_f1 p1 s_NONE s_OPEN s_EXACT) = s_OPEN)) → ((own_f1 p2 s_NONE s_OPEN s_EXACT) = s_OPEN) → (own_f2 (own_f1 p1 s_NONE s_OPEN s_EXACT) (own_f1 p2 s_NONE s_OPEN s_EXACT) w10 w11) = s_OPEN) (hq66_5 : (¬ ((own_f1 p1 s_NONE s_OPEN s_EXACT) = s_NONE)) → (¬ ((own_f1 p2 s_NONE s_OPEN s_EXACT) = s_NONE)) → (¬ ((own_f1 p1 s_NONE s_OPEN s_EXACT) = s_OPEN)) → (¬ ((own_f1 p2 s_NONE s_OPEN s_EXACT) = s_OPEN)) → (own_f2 (own_f1 p1 s_NONE s_OPEN s_EXACT) (own_f1 p2 s_NONE s_OPEN s_EXACT) w10 w11) = s_EXACT) :
    MetFree l x (head1 (Jvm.Cond.code x code maxLocals ret :: ws) room_1) (fun a U => a = #[(.int p1), (.int p2)] ∧ Z.Warmed39 U.vm ∧ U.heap = h0) (fun _ _ _ _ _ => True) (fun _ U o U' => ∃ v L, o = .returned v ∧ Q0 Z p1 p2 s_NONE s_OPEN s_EXACT m_cls w10 w11 h0 n0 v U'.heap L ∧ FrameEnd U o U' L room_1.cells room_1.slots) := by
  refine MetFree.of_bodySF (plainFor_of_name pn_0) hisR ?_
  intro p e s m args below meth c s₁ Bd hml0 hP hK
  obtain ⟨rfl, hZ, hh⟩ := hP
  have hx := Bd.exec
  have hby := Bd.bytes
  have hml : c.maxLocals = 5 := hml0
  have hown : s.vm.findClass "com/example/brass_wiring/brasswiring/AssignabilityAndPinLaw" = some m.cls := findClass_of_methodNamed Bd.named
  have hnm := (name_of_methodNamed Bd.named Bd.method).1
  have X0 : Stand p l e room_1 s m #[(.int p1), (.int p2)] below meth c s₁ [] 0 0 := Stand.of_body Bd
  have e0 : s₁.heap = h0 := by rw [← hh, Bd.state]; rfl
  have N0 := Fr.nil n0
  have pre0 : ∀ t, Steps p.tables e below (s₁.setTop (mkF m 0 #[.val (.int p1), .val (.int p2), .unset, .unset, .unset] [])) t → Steps p.tables e below (s₁.setTop (entryFrame m #[(.int p1), (.int p2)] maxLocals)) t := fun t k => castTop (ef_0 m p1 p2) k
  obtain ⟨_, _, ⟨T3, L3, k3, n3⟩, -, X3, ⟨Lc3, hQ3, l3, y3, z3⟩, st3⟩ := Jvm.LawKit.callS X0 hx (y := (⟨"com/example/brass_wiring/brasswiring/AssignabilityAndPinLaw", "pick", "(I)Lcom/example/brass_wiring/brasswiring/GenericTypes$Assignability;"⟩ : MethodName)) hown (mvT hZ (hw _ (List.mem_of_getElem? (i := 0) rfl))) (mvT hZ (hw _ (List.mem_of_getElem? (i := 1) rfl))) (mvT hZ (hw _ (List.mem_of_getElem? (i := 2) rfl))) (mvT hZ (hw _ (List.mem_of_getElem? (i := 3) rfl))) (by decide) (backOf (W := 0) (rm1 l Z a0 hw [] p1 s_NONE s_OPEN s_EXACT h0 n0 Z0 S_NONE S_OPEN S_EXACT) hZ (hw _ (List.mem_of_getElem? (i := 3) rfl)) (hw _ (List.mem_of_getElem? (i := 2) rfl)) (by decide) (by decide)) (g := (mkF m 1 #[.val (.int p1), .val (.int p2), .unset, .unset, .unset] [(.int p1)])) rfl (by rw [hml]; rfl) (argsL := [(.int p1)]) (rest := []) (lenOf pd_0_0 rfl) rfl (by show 2 * 0 + _ ≤ _; exact Nat.le_of_eq rfl) (hb hby at_1) (fun _ _ => ⟨rfl, e0, (by decide : 0 + 0 ≤ _), (by decide : 0 + 0 ≤ _)⟩)
  dsimp only [Pt.U, Pt.locs, Pt.cells, Pt.slots] at X3 l3 y3 z3 st3 hQ3
  subst l3 y3 z3
  obtain ⟨rfl, N3q, e3⟩ := hQ3
  have N3 := Fr.app N0 N3q
  obtain ⟨_, _, ⟨T4, L4, k4, n4⟩, -, X4, ⟨Lc4, hQ4, l4, y4, z4⟩, st4⟩ := Jvm.LawKit.callS X3 hx (y := (⟨"com/example/brass_wiring/brasswiring/AssignabilityAndPinLaw", "pick", "(I)Lcom/example/brass_wiring/brasswiring/GenericTypes$Assignability;"⟩ : MethodName)) hown (mvT hZ (hw _ (List.mem_of_getElem? (i := 0) rfl))) (mvT hZ (hw _ (List.mem_of_getElem? (i := 1) rfl))) (mvT hZ (hw _ (List.mem_of_getElem? (i := 2) rfl))) (mvT hZ (hw _ (List.mem_of_getElem? (i := 3) rfl))) (by decide) (backOf (W := 0) (rm1 l Z a0 hw [] p2 s_NONE s_OPEN s_EXACT h0 n0 Z0 S_NONE S_OPEN S_EXACT) hZ (hw _ (List.mem_of_getElem? (i := 3) rfl)) (hw _ (List.mem_of_getElem? (i := 2) rfl)) (by decide) (by decide)) (g := (mkF m 6 #[.val (.int p1), .val (.int p2), .val (.ref (own_f1 p1 s_NONE s_OPEN s_EXACT)), .unset, .unset] [(.int p2)])) rfl (by rw [hml]; rfl) (argsL := [(.int p2)]) (rest := []) (lenOf pd_0_0 rfl) rfl (by show 2 * 0 + _ ≤ _; exact Nat.le_of_eq rfl) (hb hby at_6) (fun _ _ => ⟨rfl, e3, (by decide : 0 + 0 ≤ _), (by decide : 0 + 0 ≤ _)⟩)
  dsimp only [Pt.U, Pt.locs, Pt.cells, Pt.slots] at X4 l4 y4 z4 st4 hQ4
  subst l4 y4 z4
  obtain ⟨rfl, N4q, e4⟩ := hQ4
  have N4 := Fr.app N3 N4q
  obtain ⟨T5, X5, e5, st5⟩ := getS2 X4 hx hZ hown (host := "") (Or.inl (hw _ (List.mem_of_getElem? (i := 5) rfl))) Via.refl e4 S_NONE (g := (mkF m 11 #[.val (.int p1), .val (.int p2), .val (.ref (own_f1 p1 s_NONE s_OPEN s_EXACT)), .val (.ref (own_f1 p2 s_NONE s_OPEN s_EXACT)), .unset] [(.ref (own_f1 p1 s_NONE s_OPEN s_EXACT))])) rfl (hb hby at_11)
  have pr7 : ∀ t, Steps p.tables e below (T5.setTop (mkF m 14 #[.val (.int p1), .val (.int p2), .val (.ref (own_f1 p1 s_NONE s_OPEN s_EXACT)), .val (.ref (own_f1 p2 s_NONE s_OPEN s_EXACT)), .unset] [(.ref s_NONE), (.ref (own_f1 p1 s_NONE s_OPEN s_EXACT))])) t → Steps p.tables e below (s₁.setTop (entryFrame m #[(.int p1), (.int p2)] maxLocals)) t := by
    intro t k
    refine pre0 t ?_
    show Steps p.tables e below (s₁.setTop (mkF m 0 #[.val (.int p1), .val (.int p2), .unset, .unset, .unset] [])) _
    refine XS.iloadN X0.here hx rfl (hb hby at_0) rfl ?_
    show Steps p.tables e below (s₁.setTop (mkF m 1 #[.val (.int p1), .val (.int p2), .unset, .unset, .unset] [(.int p1)])) _
    refine st3 _ ?_
    show Steps p.tables e below (T3.setTop (mkF m 4 #[.val (.int p1), .val (.int p2), .unset, .unset, .unset] [(.ref (own_f1 p1 s_NONE s_OPEN s_EXACT))])) _
    refine XS.astoreN X3.here hx rfl (hb hby at_4) rfl rfl (l' := #[.val (.int p1), .val (.int p2), .val (.ref (own_f1 p1 s_NONE s_OPEN s_EXACT)), .unset, .unset]) rfl ?_
    show Steps p.tables e below (T3.setTop (mkF m 5 #[.val (.int p1), .val (.int p2), .val (.ref (own_f1 p1 s_NONE s_OPEN s_EXACT)), .unset, .unset] [])) _
    refine XS.iloadN X3.here hx rfl (hb hby at_5) rfl ?_
    show Steps p.tables e below (T3.setTop (mkF m 6 #[.val (.int p1), .val (.int p2), .val (.ref (own_f1 p1 s_NONE s_OPEN s_EXACT)), .unset, .unset] [(.int p2)])) _
    refine st4 _ ?_
    show Steps p.tables e below (T4.setTop (mkF m 9 #[.val (.int p1), .val (.int p2), .val (.ref (own_f1 p1 s_NONE s_OPEN s_EXACT)), .unset, .unset] [(.ref (own_f1 p2 s_NONE s_OPEN s_EXACT))])) _
    refine XS.astoreN X4.here hx rfl (hb hby at_9) rfl rfl (l' := #[.val (.int p1), .val (.int p2), .val (.ref (own_f1 p1 s_NONE s_OPEN s_EXACT)), .val (.ref (own_f1 p2 s_NONE s_OPEN s_EXACT)), .unset]) rfl ?_
    show Steps p.tables e below (T4.setTop (mkF m 10 #[.val (.int p1), .val (.int p2), .val (.ref (own_f1 p1 s_NONE s_OPEN s_EXACT)), .val (.ref (own_f1 p2 s_NONE s_OPEN s_EXACT)), .unset] [])) _
    refine XS.aloadN X4.here hx rfl (hb hby at_10) rfl rfl ?_
    show Steps p.tables e below (T4.setTop (mkF m 11 #[.val (.int p1), .val (.int p2), .val (.ref (own_f1 p1 s_NONE s_OPEN s_EXACT)), .val (.ref (own_f1 p2 s_NONE s_OPEN s_EXACT)), .unset] [(.ref (own_f1 p1 s_NONE s_OPEN s_EXACT))])) _
    refine st5 _ ?_
    show Steps p.tables e below (T5.setTop (mkF m 14 #[.val (.int p1), .val (.int p2), .val (.ref (own_f1 p1 s_NONE s_OPEN s_EXACT)), .val (.ref (own_f1 p2 s_NONE s_OPEN s_EXACT)), .unset] [(.ref s_NONE), (.ref (own_f1 p1 s_NONE s_OPEN s_EXACT))])) _
    exact k
  by_cases hc6 : (own_f1 p1 s_NONE s_OPEN s_EXACT) = s_NONE
  · obtain ⟨T8, X8, e8, st8⟩ := getS2 X5 hx hZ hown (host := "") (Or.inl (hw _ (List.mem_of_getElem? (i := 5) rfl))) Via.refl e5 S_NONE (g := (mkF m 24 #[.val (.int p1), .val (.int p2), .val (.ref (own_f1 p1 s_NONE s_OPEN s_EXACT)), .val (.ref (own_f1 p2 s_NONE s_OPEN s_EXACT)), .unset] [])) rfl (hb hby at_24)
    obtain ⟨cq9, kq9, q9a, q9b, q9c⟩ := isOf hZ e8 E_o1
    obtain ⟨_, _, ⟨T9, L9, k9, n9⟩, -, X9, ⟨Lc9, hQ9, l9, y9, z9⟩, st9⟩ := X8.virtualBack hx (y := (⟨"com/example/brass_wiring/brasswiring/GenericTypes$Assignability", "and", "(Lcom/example/brass_wiring/brasswiring/GenericTypes$Assignability;)Lcom/example/brass_wiring/brasswiring/GenericTypes$Assignability;"⟩ : MethodName)) (z := (⟨"com/example/brass_wiring/brasswiring/GenericTypes$Assignability", "and", "(Lcom/example/brass_wiring/brasswiring/GenericTypes$Assignability;)Lcom/example/brass_wiring/brasswiring/GenericTypes$Assignability;"⟩ : MethodName)) hown (mvT hZ (hw _ (List.mem_of_getElem? (i := 8) rfl))) (mvT hZ (hw _ (List.mem_of_getElem? (i := 9) rfl))) (notFace_of_selects (args := #[]) (mvT hZ (hw _ (List.mem_of_getElem? (i := 11) rfl)))) (mvT hZ (hw _ (List.mem_of_getElem? (i := 11) rfl))) (mvT hZ (hw _ (List.mem_of_getElem? (i := 10) rfl))) (by decide) (backOf (W := 0) (rm2 l Z a0 hw [] (own_f1 p1 s_NONE s_OPEN s_EXACT) (own_f1 p2 s_NONE s_OPEN s_EXACT) m_cls w10 w11 h0 n0 Z0 E_o1 M_cls E_o2 F_ordinal_o1 F_ordinal_o2) hZ (hw _ (List.mem_of_getElem? (i := 12) rfl)) (hw _ (List.mem_of_getElem? (i := 6) rfl)) (by decide) (by decide)) q9a q9c (g := (mkF m 61 #[.val (.int p1), .val (.int p2), .val (.ref (own_f1 p1 s_NONE s_OPEN s_EXACT)), .val (.ref (own_f1 p2 s_NONE s_OPEN s_EXACT)), .val (.ref s_NONE)] [(.ref (own_f1 p2 s_NONE s_OPEN s_EXACT)), (.ref (own_f1 p1 s_NONE s_OPEN s_EXACT))])) rfl (by rw [hml]; rfl) (Steps.refl _) (argsL := [(.ref (own_f1 p2 s_NONE s_OPEN s_EXACT))]) (rest := []) (lenOf pd_0_1 rfl) rfl (by show 2 * 0 + _ ≤ _; exact Nat.le_of_eq rfl) (hb hby at_61) (fun _ _ => ⟨rfl, e8, (by decide : 0 + 0 ≤ _), (by decide : 0 + 0 ≤ _)⟩)
    dsimp only [Pt.U, Pt.locs, Pt.cells, Pt.slots] at X9 l9 y9 z9 st9 hQ9
    subst l9 y9 z9
    obtain ⟨rfl, N9q, e9⟩ := hQ9
    have N9 := Fr.app N4 N9q
    obtain ⟨fs, hr, hrun, hended, hW, hsame⟩ := X9.leave (v := some (.int (1 : Int32))) (fun h => by rw [Bd.returns] at h; cases h)
    refine ⟨_, _, pr7 _ ?_, hrun, hended, _, _, rfl, ?_, ⟨_, rfl⟩, hW, hsame.mono (by decide) (by decide)⟩
    · show Steps p.tables e below (T5.setTop (mkF m 14 #[.val (.int p1), .val (.int p2), .val (.ref (own_f1 p1 s_NONE s_OPEN s_EXACT)), .val (.ref (own_f1 p2 s_NONE s_OPEN s_EXACT)), .unset] [(.ref s_NONE), (.ref (own_f1 p1 s_NONE s_OPEN s_EXACT))])) _
      refine Jvm.RoadKit.acmp (g := (mkF m 14 #[.val (.int p1), .val (.int p2), .val (.ref (own_f1 p1 s_NONE s_OPEN s_EXACT)), .val (.ref (own_f1 p2 s_NONE s_OPEN s_EXACT)), .unset] [(.ref s_NONE), (.ref (own_f1 p1 s_NONE s_OPEN s_EXACT))])) X5 hx rfl rfl rfl (pc0 := 14) (pc' := 24) (same := true) rfl (hb hby at_14) rfl (decide_eq_true (congrArg Value.ref hc6)) (by decide) (by decide) ?_
      show Steps p.tables e below (T5.setTop (mkF m 24 #[.val (.int p1), .val (.int p2), .val (.ref (own_f1 p1 s_NONE s_OPEN s_EXACT)), .val (.ref (own_f1 p2 s_NONE s_OPEN s_EXACT)), .unset] [])) _
      refine st8 _ ?_
      show Steps p.tables e below (T8.setTop (mkF m 27 #[.val (.int p1), .val (.int p2), .val (.ref (own_f1 p1 s_NONE s_OPEN s_EXACT)), .val (.ref (own_f1 p2 s_NONE s_OPEN s_EXACT)), .unset] [(.ref s_NONE)])) _
      refine XS.astore X8.here hx rfl (hb hby at_27) rfl rfl (l' := #[.val (.int p1), .val (.int p2), .val (.ref (own_f1 p1 s_NONE s_OPEN s_EXACT)), .val (.ref (own_f1 p2 s_NONE s_OPEN s_EXACT)), .val (.ref s_NONE)]) rfl ?_
      show Steps p.tables e below (T8.setTop (mkF m 29 #[.val (.int p1), .val (.int p2), .val (.ref (own_f1 p1 s_NONE s_OPEN s_EXACT)), .val (.ref (own_f1 p2 s_NONE s_OPEN s_EXACT)), .val (.ref s_NONE)] [])) _
      refine XS.goto X8.here hx rfl (pc0 := 29) (pc' := 59) rfl (hb hby at_29) (by decide) (by decide) ?_
      show Steps p.tables e below (T8.setTop (mkF m 59 #[.val (.int p1), .val (.int p2), .val (.ref (own_f1 p1 s_NONE s_OPEN s_EXACT)), .val (.ref (own_f1 p2 s_NONE s_OPEN s_EXACT)), .val (.ref s_NONE)] [])) _
      refine XS.aloadN X8.here hx rfl (hb hby at_59) rfl rfl ?_
      show Steps p.tables e below (T8.setTop (mkF m 60 #[.val (.int p1), .val (.int p2), .val (.ref (own_f1 p1 s_NONE s_OPEN s_EXACT)), .val (.ref (own_f1 p2 s_NONE s_OPEN s_EXACT)), .val (.ref s_NONE)] [(.ref (own_f1 p1 s_NONE s_OPEN s_EXACT))])) _
      refine XS.aloadN X8.here hx rfl (hb hby at_60) rfl rfl ?_
      show Steps p.tables e below (T8.setTop (mkF m 61 #[.val (.int p1), .val (.int p2), .val (.ref (own_f1 p1 s_NONE s_OPEN s_EXACT)), .val (.ref (own_f1 p2 s_NONE s_OPEN s_EXACT)), .val (.ref s_NONE)] [(.ref (own_f1 p2 s_NONE s_OPEN s_EXACT)), (.ref (own_f1 p1 s_NONE s_OPEN s_EXACT))])) _
      refine st9.trans ?_
      show Steps p.tables e below (T9.setTop (mkF m 64 #[.val (.int p1), .val (.int p2), .val (.ref (own_f1 p1 s_NONE s_OPEN s_EXACT)), .val (.ref (own_f1 p2 s_NONE s_OPEN s_EXACT)), .val (.ref s_NONE)] [(.ref (own_f2 (own_f1 p1 s_NONE s_OPEN s_EXACT) (own_f1 p2 s_NONE s_OPEN s_EXACT) w10 w11))])) _
      refine XS.aload X9.here hx rfl (hb hby at_64) rfl rfl ?_
      show Steps p.tables e below (T9.setTop (mkF m 66 #[.val (.int p1), .val (.int p2), .val (.ref (own_f1 p1 s_NONE s_OPEN s_EXACT)), .val (.ref (own_f1 p2 s_NONE s_OPEN s_EXACT)), .val (.ref s_NONE)] [(.ref s_NONE), (.ref (own_f2 (own_f1 p1 s_NONE s_OPEN s_EXACT) (own_f1 p2 s_NONE s_OPEN s_EXACT) w10 w11))])) _
      refine Jvm.RoadKit.acmp (g := (mkF m 66 #[.val (.int p1), .val (.int p2), .val (.ref (own_f1 p1 s_NONE s_OPEN s_EXACT)), .val (.ref (own_f1 p2 s_NONE s_OPEN s_EXACT)), .val (.ref s_NONE)] [(.ref s_NONE), (.ref (own_f2 (own_f1 p1 s_NONE s_OPEN s_EXACT) (own_f1 p2 s_NONE s_OPEN s_EXACT) w10 w11))])) X9 hx rfl rfl rfl (pc0 := 66) (pc' := 69) (same := true) rfl (hb hby at_66) rfl (decide_eq_true (congrArg Value.ref (hq66_1 hc6))) (by decide) (by decide) ?_
      show Steps p.tables e below (T9.setTop (mkF m 69 #[.val (.int p1), .val (.int p2), .val (.ref (own_f1 p1 s_NONE s_OPEN s_EXACT)), .val (.ref (own_f1 p2 s_NONE s_OPEN s_EXACT)), .val (.ref s_NONE)] [])) _
      refine XS.iconst X9.here hx rfl (hb hby at_69) ?_
      show Steps p.tables e below (T9.setTop (mkF m 70 #[.val (.int p1), .val (.int p2), .val (.ref (own_f1 p1 s_NONE s_OPEN s_EXACT)), .val (.ref (own_f1 p2 s_NONE s_OPEN s_EXACT)), .val (.ref s_NONE)] [(.int (1 : Int32))])) _
      refine XS.goto X9.here hx rfl (pc0 := 70) (pc' := 74) rfl (hb hby at_70) (by decide) (by decide) ?_
      show Steps p.tables e below (T9.setTop (mkF m 74 #[.val (.int p1), .val (.int p2), .val (.ref (own_f1 p1 s_NONE s_OPEN s_EXACT)), .val (.ref (own_f1 p2 s_NONE s_OPEN s_EXACT)), .val (.ref s_NONE)] [(.int (1 : Int32))])) _
      exact retN X9 hx (t := .boolean) Bd.returns (by simp) (hb hby at_74) hr
    · show Q0 Z p1 p2 s_NONE s_OPEN s_EXACT m_cls w10 w11 h0 n0 _ T9.heap _
      rw [e9]
      exact ⟨rfl, N9⟩
  · obtain ⟨T12, X12, e12, st12⟩ := getS2 X5 hx hZ hown (host := "") (Or.inl (hw _ (List.mem_of_getElem? (i := 5) rfl))) Via.refl e5 S_NONE (g := (mkF m 18 #[.val (.int p1), .val (.int p2), .val (.ref (own_f1 p1 s_NONE s_OPEN s_EXACT)), .val (.ref (own_f1 p2 s_NONE s_OPEN s_EXACT)), .unset] [(.ref (own_f1 p2 s_NONE s_OPEN s_EXACT))])) rfl (hb hby at_18)
    have pr14 : ∀ t, Steps p.tables e below (T12.setTop (mkF m 21 #[.val (.int p1), .val (.int p2), .val (.ref (own_f1 p1 s_NONE s_OPEN s_EXACT)), .val (.ref (own_f1 p2 s_NONE s_OPEN s_EXACT)), .unset] [(.ref s_NONE), (.ref (own_f1 p2 s_NONE s_OPEN s_EXACT))])) t → Steps p.tables e below (s₁.setTop (entryFrame m #[(.int p1), (.int p2)] maxLocals)) t := by
      intro t k
      refine pr7 t ?_
      show Steps p.tables e below (T5.setTop (mkF m 14 #[.val (.int p1), .val (.int p2), .val (.ref (own_f1 p1 s_NONE s_OPEN s_EXACT)), .val (.ref (own_f1 p2 s_NONE s_OPEN s_EXACT)), .unset] [(.ref s_NONE), (.ref (own_f1 p1 s_NONE s_OPEN s_EXACT))])) _
      refine Jvm.RoadKit.acmp (g := (mkF m 14 #[.val (.int p1), .val (.int p2), .val (.ref (own_f1 p1 s_NONE s_OPEN s_EXACT)), .val (.ref (own_f1 p2 s_NONE s_OPEN s_EXACT)), .unset] [(.ref s_NONE), (.ref (own_f1 p1 s_NONE s_OPEN s_EXACT))])) X5 hx rfl rfl rfl (pc0 := 14) (pc' := 17) (same := false) rfl (hb hby at_14) rfl (decide_eq_false fun q => hc6 (Value.ref.inj q)) (by decide) (by decide) ?_
      show Steps p.tables e below (T5.setTop (mkF m 17 #[.val (.int p1), .val (.int p2), .val (.ref (own_f1 p1 s_NONE s_OPEN s_EXACT)), .val (.ref (own_f1 p2 s_NONE s_OPEN s_EXACT)), .unset] [])) _
      refine XS.aloadN X5.here hx rfl (hb hby at_17) rfl rfl ?_
      show Steps p.tables e below (T5.setTop (mkF m 18 #[.val (.int p1), .val (.int p2), .val (.ref (own_f1 p1 s_NONE s_OPEN s_EXACT)), .val (.ref (own_f1 p2 s_NONE s_OPEN s_EXACT)), .unset] [(.ref (own_f1 p2 s_NONE s_OPEN s_EXACT))])) _
      refine st12 _ ?_
      show Steps p.tables e below (T12.setTop (mkF m 21 #[.val (.int p1), .val (.int p2), .val (.ref (own_f1 p1 s_NONE s_OPEN s_EXACT)), .val (.ref (own_f1 p2 s_NONE s_OPEN s_EXACT)), .unset] [(.ref s_NONE), (.ref (own_f1 p2 s_NONE s_OPEN s_EXACT))])) _
      exact k
    by_cases hc13 : (own_f1 p2 s_NONE s_OPEN s_EXACT) = s_NONE
    · obtain ⟨T15, X15, e15, st15⟩ := getS2 X12 hx hZ hown (host := "") (Or.inl (hw _ (List.mem_of_getElem? (i := 5) rfl))) Via.refl e12 S_NONE (g := (mkF m 24 #[.val (.int p1), .val (.int p2), .val (.ref (own_f1 p1 s_NONE s_OPEN s_EXACT)), .val (.ref (own_f1 p2 s_NONE s_OPEN s_EXACT)), .unset] [])) rfl (hb hby at_24)
      obtain ⟨cq16, kq16, q16a, q16b, q16c⟩ := isOf hZ e15 E_o1
      obtain ⟨_, _, ⟨T16, L16, k16, n16⟩, -, X16, ⟨Lc16, hQ16, l16, y16, z16⟩, st16⟩ := X15.virtualBack hx (y := (⟨"com/example/brass_wiring/brasswiring/GenericTypes$Assignability", "and", "(Lcom/example/brass_wiring/brasswiring/GenericTypes$Assignability;)Lcom/example/brass_wiring/brasswiring/GenericTypes$Assignability;"⟩ : MethodName)) (z := (⟨"com/example/brass_wiring/brasswiring/GenericTypes$Assignability", "and", "(Lcom/example/brass_wiring/brasswiring/GenericTypes$Assignability;)Lcom/example/brass_wiring/brasswiring/GenericTypes$Assignability;"⟩ : MethodName)) hown (mvT hZ (hw _ (List.mem_of_getElem? (i := 8) rfl))) (mvT hZ (hw _ (List.mem_of_getElem? (i := 9) rfl))) (notFace_of_selects (args := #[]) (mvT hZ (hw _ (List.mem_of_getElem? (i := 11) rfl)))) (mvT hZ (hw _ (List.mem_of_getElem? (i := 11) rfl))) (mvT hZ (hw _ (List.mem_of_getElem? (i := 10) rfl))) (by decide) (backOf (W := 0) (rm2 l Z a0 hw [] (own_f1 p1 s_NONE s_OPEN s_EXACT) (own_f1 p2 s_NONE s_OPEN s_EXACT) m_cls w10 w11 h0 n0 Z0 E_o1 M_cls E_o2 F_ordinal_o1 F_ordinal_o2) hZ (hw _ (List.mem_of_getElem? (i := 12) rfl)) (hw _ (List.mem_of_getElem? (i := 6) rfl)) (by decide) (by decide)) q16a q16c (g := (mkF m 61 #[.val (.int p1), .val (.int p2), .val (.ref (own_f1 p1 s_NONE s_OPEN s_EXACT)), .val (.ref (own_f1 p2 s_NONE s_OPEN s_EXACT)), .val (.ref s_NONE)] [(.ref (own_f1 p2 s_NONE s_OPEN s_EXACT)), (.ref (own_f1 p1 s_NONE s_OPEN s_EXACT))])) rfl (by rw [hml]; rfl) (Steps.refl _) (argsL := [(.ref (own_f1 p2 s_NONE s_OPEN s_EXACT))]) (rest := []) (lenOf pd_0_1 rfl) rfl (by show 2 * 0 + _ ≤ _; exact Nat.le_of_eq rfl) (hb hby at_61) (fun _ _ => ⟨rfl, e15, (by decide : 0 + 0 ≤ _), (by decide : 0 + 0 ≤ _)⟩)
      dsimp only [Pt.U, Pt.locs, Pt.cells, Pt.slots] at X16 l16 y16 z16 st16 hQ16
      subst l16 y16 z16
      obtain ⟨rfl, N16q, e16⟩ := hQ16
      have N16 := Fr.app N4 N16q
      obtain ⟨fs, hr, hrun, hended, hW, hsame⟩ := X16.leave (v := some (.int (1 : Int32))) (fun h => by rw [Bd.returns] at h; cases h)
      refine ⟨_, _, pr14 _ ?_, hrun, hended, _, _, rfl, ?_, ⟨_, rfl⟩, hW, hsame.mono (by decide) (by decide)⟩
      · show Steps p.tables e below (T12.setTop (mkF m 21 #[.val (.int p1), .val (.int p2), .val (.ref (own_f1 p1 s_NONE s_OPEN s_EXACT)), .val (.ref (own_f1 p2 s_NONE s_OPEN s_EXACT)), .unset] [(.ref s_NONE), (.ref (own_f1 p2 s_NONE s_OPEN s_EXACT))])) _
        refine Jvm.RoadKit.acmp (g := (mkF m 21 #[.val (.int p1), .val (.int p2), .val (.ref (own_f1 p1 s_NONE s_OPEN s_EXACT)), .val (.ref (own_f1 p2 s_NONE s_OPEN s_EXACT)), .unset] [(.ref s_NONE), (.ref (own_f1 p2 s_NONE s_OPEN s_EXACT))])) X12 hx rfl rfl rfl (pc0 := 21) (pc' := 24) (same := true) rfl (hb hby at_21) rfl (decide_eq_true (congrArg Value.ref hc13)) (by decide) (by decide) ?_
        show Steps p.tables e below (T12.setTop (mkF m 24 #[.val (.int p1), .val (.int p2), .val (.ref (own_f1 p1 s_NONE s_OPEN s_EXACT)), .val (.ref (own_f1 p2 s_NONE s_OPEN s_EXACT)), .unset] [])) _
        refine st15 _ ?_
        show Steps p.tables e below (T15.setTop (mkF m 27 #[.val (.int p1), .val (.int p2), .val (.ref (own_f1 p1 s_NONE s_OPEN s_EXACT)), .val (.ref (own_f1 p2 s_NONE s_OPEN s_EXACT)), .unset] [(.ref s_NONE)])) _
        refine XS.astore X15.here hx rfl (hb hby at_27) rfl rfl (l' := #[.val (.int p1), .val (.int p2), .val (.ref (own_f1 p1 s_NONE s_OPEN s_EXACT)), .val (.ref (own_f1 p2 s_NONE s_OPEN s_EXACT)), .val (.ref s_NONE)]) rfl ?_
        show Steps p.tables e below (T15.setTop (mkF m 29 #[.val (.int p1), .val (.int p2), .val (.ref (own_f1 p1 s_NONE s_OPEN s_EXACT)), .val (.ref (own_f1 p2 s_NONE s_OPEN s_EXACT)), .val (.ref s_NONE)] [])) _
        refine XS.goto X15.here hx rfl (pc0 := 29) (pc' := 59) rfl (hb hby at_29) (by decide) (by decide) ?_
        show Steps p.tables e below (T15.setTop (mkF m 59 #[.val (.int p1), .val (.int p2), .val (.ref (own_f1 p1 s_NONE s_OPEN s_EXACT)), .val (.ref (own_f1 p2 s_NONE s_OPEN s_EXACT)), .val (.ref s_NONE)] [])) _
        refine XS.aloadN X15.here hx rfl (hb hby at_59) rfl rfl ?_
        show Steps p.tables e below (T15.setTop (mkF m 60 #[.val (.int p1), .val (.int p2), .val (.ref (own_f1 p1 s_NONE s_OPEN s_EXACT)), .val (.ref (own_f1 p2 s_NONE s_OPEN s_EXACT)), .val (.ref s_NONE)] [(.ref (own_f1 p1 s_NONE s_OPEN s_EXACT))])) _
        refine XS.aloadN X15.here hx rfl (hb hby at_60) rfl rfl ?_
        show Steps p.tables e below (T15.setTop (mkF m 61 #[.val (.int p1), .val (.int p2), .val (.ref (own_f1 p1 s_NONE s_OPEN s_EXACT)), .val (.ref (own_f1 p2 s_NONE s_OPEN s_EXACT)), .val (.ref s_NONE)] [(.ref (own_f1 p2 s_NONE s_OPEN s_EXACT)), (.ref (own_f1 p1 s_NONE s_OPEN s_EXACT))])) _
        refine st16.trans ?_
        show Steps p.tables e below (T16.setTop (mkF m 64 #[.val (.int p1), .val (.int p2), .val (.ref (own_f1 p1 s_NONE s_OPEN s_EXACT)), .val (.ref (own_f1 p2 s_NONE s_OPEN s_EXACT)), .val (.ref s_NONE)] [(.ref (own_f2 (own_f1 p1 s_NONE s_OPEN s_EXACT) (own_f1 p2 s_NONE s_OPEN s_EXACT) w10 w11))])) _
        refine XS.aload X16.here hx rfl (hb hby at_64) rfl rfl ?_
        show Steps p.tables e below (T16.setTop (mkF m 66 #[.val (.int p1), .val (.int p2), .val (.ref (own_f1 p1 s_NONE s_OPEN s_EXACT)), .val (.ref (own_f1 p2 s_NONE s_OPEN s_EXACT)), .val (.ref s_NONE)] [(.ref s_NONE), (.ref (own_f2 (own_f1 p1 s_NONE s_OPEN s_EXACT) (own_f1 p2 s_NONE s_OPEN s_EXACT) w10 w11))])) _
        refine Jvm.RoadKit.acmp (g := (mkF m 66 #[.val (.int p1), .val (.int p2), .val (.ref (own_f1 p1 s_NONE s_OPEN s_EXACT)), .val (.ref (own_f1 p2 s_NONE s_OPEN s_EXACT)), .val (.ref s_NONE)] [(.ref s_NONE), (.ref (own_f2 (own_f1 p1 s_NONE s_OPEN s_EXACT) (own_f1 p2 s_NONE s_OPEN s_EXACT) w10 w11))])) X16 hx rfl rfl rfl (pc0 := 66) (pc' := 69) (same := true) rfl (hb hby at_66) rfl (decide_eq_true (congrArg Value.ref (hq66_2 hc6 hc13))) (by decide) (by decide) ?_
        show Steps p.tables e below (T16.setTop (mkF m 69 #[.val (.int p1), .val (.int p2), .val (.ref (own_f1 p1 s_NONE s_OPEN s_EXACT)), .val (.ref (own_f1 p2 s_NONE s_OPEN s_EXACT)), .val (.ref s_NONE)] [])) _
        refine XS.iconst X16.here hx rfl (hb hby at_69) ?_
        show Steps p.tables e below (T16.setTop (mkF m 70 #[.val (.int p1), .val (.int p2), .val (.ref (own_f1 p1 s_NONE s_OPEN s_EXACT)), .val (.ref (own_f1 p2 s_NONE s_OPEN s_EXACT)), .val (.ref s_NONE)] [(.int (1 : Int32))])) _
        refine XS.goto X16.here hx rfl (pc0 := 70) (pc' := 74) rfl (hb hby at_70) (by decide) (by decide) ?_
        show Steps p.tables e below (T16.setTop (mkF m 74 #[.val (.int p1), .val (.int p2), .val (.ref (own_f1 p1 s_NONE s_OPEN s_EXACT)), .val (.ref (own_f1 p2 s_NONE s_OPEN s_EXACT)), .val (.ref s_NONE)] [(.int (1 : Int32))])) _
        exact retN X16 hx (t := .boolean) Bd.returns (by simp) (hb hby at_74) hr
      · show Q0 Z p1 p2 s_NONE s_OPEN s_EXACT m_cls w10 w11 h0 n0 _ T16.heap _
        rw [e16]
        exact ⟨rfl, N16⟩
    · obtain ⟨T17, X17, e17, st17⟩ := getS2 X12 hx hZ hown (host := "") (Or.inl (hw _ (List.mem_of_getElem? (i := 30) rfl))) Via.refl e12 S_OPEN (g := (mkF m 33 #[.val (.int p1), .val (.int p2), .val (.ref (own_f1 p1 s_NONE s_OPEN s_EXACT)), .val (.ref (own_f1 p2 s_NONE s_OPEN s_EXACT)), .unset] [(.ref (own_f1 p1 s_NONE s_OPEN s_EXACT))])) rfl (hb hby at_33)
      have pr19 : ∀ t, Steps p.tables e below (T17.setTop (mkF m 36 #[.val (.int p1), .val (.int p2), .val (.ref (own_f1 p1 s_NONE s_OPEN s_EXACT)), .val (.ref (own_f1 p2 s_NONE s_OPEN s_EXACT)), .unset] [(.ref s_OPEN), (.ref (own_f1 p1 s_NONE s_OPEN s_EXACT))])) t → Steps p.tables e below (s₁.setTop (entryFrame m #[(.int p1), (.int p2)] maxLocals)) t := by
        intro t k
        refine pr14 t ?_
        show Steps p.tables e below (T12.setTop (mkF m 21 #[.val (.int p1), .val (.int p2), .val (.ref (own_f1 p1 s_NONE s_OPEN s_EXACT)), .val (.ref (own_f1 p2 s_NONE s_OPEN s_EXACT)), .unset] [(.ref s_NONE), (.ref (own_f1 p2 s_NONE s_OPEN s_EXACT))])) _
        refine Jvm.RoadKit.acmp (g := (mkF m 21 #[.val (.int p1), .val (.int p2), .val (.ref (own_f1 p1 s_NONE s_OPEN s_EXACT)), .val (.ref (own_f1 p2 s_NONE s_OPEN s_EXACT)), .unset] [(.ref s_NONE), (.ref (own_f1 p2 s_NONE s_OPEN s_EXACT))])) X12 hx rfl rfl rfl (pc0 := 21) (pc' := 32) (same := false) rfl (hb hby at_21) rfl (decide_eq_false fun q => hc13 (Value.ref.inj q)) (by decide) (by decide) ?_
        show Steps p.tables e below (T12.setTop (mkF m 32 #[.val (.int p1), .val (.int p2), .val (.ref (own_f1 p1 s_NONE s_OPEN s_EXACT)), .val (.ref (own_f1 p2 s_NONE s_OPEN s_EXACT)), .unset] [])) _
        refine XS.aloadN X12.here hx rfl (hb hby at_32) rfl rfl ?_
        show Steps p.tables e below (T12.setTop (mkF m 33 #[.val (.int p1), .val (.int p2), .val (.ref (own_f1 p1 s_NONE s_OPEN s_EXACT)), .val (.ref (own_f1 p2 s_NONE s_OPEN s_EXACT)), .unset] [(.ref (own_f1 p1 s_NONE s_OPEN s_EXACT))])) _
        refine st17 _ ?_
        show Steps p.tables e below (T17.setTop (mkF m 36 #[.val (.int p1), .val (.int p2), .val (.ref (own_f1 p1 s_NONE s_OPEN s_EXACT)), .val (.ref (own_f1 p2 s_NONE s_OPEN s_EXACT)), .unset] [(.ref s_OPEN), (.ref (own_f1 p1 s_NONE s_OPEN s_EXACT))])) _
        exact k
      by_cases hc18 : (own_f1 p1 s_NONE s_OPEN s_EXACT) = s_OPEN
      · obtain ⟨T20, X20, e20, st20⟩ := getS2 X17 hx hZ hown (host := "") (Or.inl (hw _ (List.mem_of_getElem? (i := 30) rfl))) Via.refl e17 S_OPEN (g := (mkF m 46 #[.val (.int p1), .val (.int p2), .val (.ref (own_f1 p1 s_NONE s_OPEN s_EXACT)), .val (.ref (own_f1 p2 s_NONE s_OPEN s_EXACT)), .unset] [])) rfl (hb hby at_46)
        obtain ⟨cq21, kq21, q21a, q21b, q21c⟩ := isOf hZ e20 E_o1
        obtain ⟨_, _, ⟨T21, L21, k21, n21⟩, -, X21, ⟨Lc21, hQ21, l21, y21, z21⟩, st21⟩ := X20.virtualBack hx (y := (⟨"com/example/brass_wiring/brasswiring/GenericTypes$Assignability", "and", "(Lcom/example/brass_wiring/brasswiring/GenericTypes$Assignability;)Lcom/example/brass_wiring/brasswiring/GenericTypes$Assignability;"⟩ : MethodName)) (z := (⟨"com/example/brass_wiring/brasswiring/GenericTypes$Assignability", "and", "(Lcom/example/brass_wiring/brasswiring/GenericTypes$Assignability;)Lcom/example/brass_wiring/brasswiring/GenericTypes$Assignability;"⟩ : MethodName)) hown (mvT hZ (hw _ (List.mem_of_getElem? (i := 8) rfl))) (mvT hZ (hw _ (List.mem_of_getElem? (i := 9) rfl))) (notFace_of_selects (args := #[]) (mvT hZ (hw _ (List.mem_of_getElem? (i := 11) rfl)))) (mvT hZ (hw _ (List.mem_of_getElem? (i := 11) rfl))) (mvT hZ (hw _ (List.mem_of_getElem? (i := 10) rfl))) (by decide) (backOf (W := 0) (rm2 l Z a0 hw [] (own_f1 p1 s_NONE s_OPEN s_EXACT) (own_f1 p2 s_NONE s_OPEN s_EXACT) m_cls w10 w11 h0 n0 Z0 E_o1 M_cls E_o2 F_ordinal_o1 F_ordinal_o2) hZ (hw _ (List.mem_of_getElem? (i := 12) rfl)) (hw _ (List.mem_of_getElem? (i := 6) rfl)) (by decide) (by decide)) q21a q21c (g := (mkF m 61 #[.val (.int p1), .val (.int p2), .val (.ref (own_f1 p1 s_NONE s_OPEN s_EXACT)), .val (.ref (own_f1 p2 s_NONE s_OPEN s_EXACT)), .val (.ref s_OPEN)] [(.ref (own_f1 p2 s_NONE s_OPEN s_EXACT)), (.ref (own_f1 p1 s_NONE s_OPEN s_EXACT))])) rfl (by rw [hml]; rfl) (Steps.refl _) (argsL := [(.ref (own_f1 p2 s_NONE s_OPEN s_EXACT))]) (rest := []) (lenOf pd_0_1 rfl) rfl (by show 2 * 0 + _ ≤ _; exact Nat.le_of_eq rfl) (hb hby at_61) (fun _ _ => ⟨rfl, e20, (by decide : 0 + 0 ≤ _), (by decide : 0 + 0 ≤ _)⟩)
        dsimp only [Pt.U, Pt.locs, Pt.cells, Pt.slots] at X21 l21 y21 z21 st21 hQ21
        subst l21 y21 z21
        obtain ⟨rfl, N21q, e21⟩ := hQ21
        have N21 := Fr.app N4 N21q
        obtain ⟨fs, hr, hrun, hended, hW, hsame⟩ := X21.leave (v := some (.int (1 : Int32))) (fun h => by rw [Bd.returns] at h; cases h)
        refine ⟨_, _, pr19 _ ?_, hrun, hended, _, _, rfl, ?_, ⟨_, rfl⟩, hW, hsame.mono (by decide) (by decide)⟩
        · show Steps p.tables e below (T17.setTop (mkF m 36 #[.val (.int p1), .val (.int p2), .val (.ref (own_f1 p1 s_NONE s_OPEN s_EXACT)), .val (.ref (own_f1 p2 s_NONE s_OPEN s_EXACT)), .unset] [(.ref s_OPEN), (.ref (own_f1 p1 s_NONE s_OPEN s_EXACT))])) _
          refine Jvm.RoadKit.acmp (g := (mkF m 36 #[.val (.int p1), .val (.int p2), .val (.ref (own_f1 p1 s_NONE s_OPEN s_EXACT)), .val (.ref (own_f1 p2 s_NONE s_OPEN s_EXACT)), .unset] [(.ref s_OPEN), (.ref (own_f1 p1 s_NONE s_OPEN s_EXACT))])) X17 hx rfl rfl rfl (pc0 := 36) (pc' := 46) (same := true) rfl (hb hby at_36) rfl (decide_eq_true (congrArg Value.ref hc18)) (by decide) (by decide) ?_
          show Steps p.tables e below (T17.setTop (mkF m 46 #[.val (.int p1), .val (.int p2), .val (.ref (own_f1 p1 s_NONE s_OPEN s_EXACT)), .val (.ref (own_f1 p2 s_NONE s_OPEN s_EXACT)), .unset] [])) _
          refine st20 _ ?_
          show Steps p.tables e below (T20.setTop (mkF m 49 #[.val (.int p1), .val (.int p2), .val (.ref (own_f1 p1 s_NONE s_OPEN s_EXACT)), .val (.ref (own_f1 p2 s_NONE s_OPEN s_EXACT)), .unset] [(.ref s_OPEN)])) _
          refine XS.astore X20.here hx rfl (hb hby at_49) rfl rfl (l' := #[.val (.int p1), .val (.int p2), .val (.ref (own_f1 p1 s_NONE s_OPEN s_EXACT)), .val (.ref (own_f1 p2 s_NONE s_OPEN s_EXACT)), .val (.ref s_OPEN)]) rfl ?_
          show Steps p.tables e below (T20.setTop (mkF m 51 #[.val (.int p1), .val (.int p2), .val (.ref (own_f1 p1 s_NONE s_OPEN s_EXACT)), .val (.ref (own_f1 p2 s_NONE s_OPEN s_EXACT)), .val (.ref s_OPEN)] [])) _
          refine XS.goto X20.here hx rfl (pc0 := 51) (pc' := 59) rfl (hb hby at_51) (by decide) (by decide) ?_
          show Steps p.tables e below (T20.setTop (mkF m 59 #[.val (.int p1), .val (.int p2), .val (.ref (own_f1 p1 s_NONE s_OPEN s_EXACT)), .val (.ref (own_f1 p2 s_NONE s_OPEN s_EXACT)), .val (.ref s_OPEN)] [])) _
          refine XS.aloadN X20.here hx rfl (hb hby at_59) rfl rfl ?_
          show Steps p.tables e below (T20.setTop (mkF m 60 #[.val (.int p1), .val (.int p2), .val (.ref (own_f1 p1 s_NONE s_OPEN s_EXACT)), .val (.ref (own_f1 p2 s_NONE s_OPEN s_EXACT)), .val (.ref s_OPEN)] [(.ref (own_f1 p1 s_NONE s_OPEN s_EXACT))])) _
          refine XS.aloadN X20.here hx rfl (hb hby at_60) rfl rfl ?_
          show Steps p.tables e below (T20.setTop (mkF m 61 #[.val (.int p1), .val (.int p2), .val (.ref (own_f1 p1 s_NONE s_OPEN s_EXACT)), .val (.ref (own_f1 p2 s_NONE s_OPEN s_EXACT)), .val (.ref s_OPEN)] [(.ref (own_f1 p2 s_NONE s_OPEN s_EXACT)), (.ref (own_f1 p1 s_NONE s_OPEN s_EXACT))])) _
          refine st21.trans ?_
          show Steps p.tables e below (T21.setTop (mkF m 64 #[.val (.int p1), .val (.int p2), .val (.ref (own_f1 p1 s_NONE s_OPEN s_EXACT)), .val (.ref (own_f1 p2 s_NONE s_OPEN s_EXACT)), .val (.ref s_OPEN)] [(.ref (own_f2 (own_f1 p1 s_NONE s_OPEN s_EXACT) (own_f1 p2 s_NONE s_OPEN s_EXACT) w10 w11))])) _
          refine XS.aload X21.here hx rfl (hb hby at_64) rfl rfl ?_
          show Steps p.tables e below (T21.setTop (mkF m 66 #[.val (.int p1), .val (.int p2), .val (.ref (own_f1 p1 s_NONE s_OPEN s_EXACT)), .val (.ref (own_f1 p2 s_NONE s_OPEN s_EXACT)), .val (.ref s_OPEN)] [(.ref s_OPEN), (.ref (own_f2 (own_f1 p1 s_NONE s_OPEN s_EXACT) (own_f1 p2 s_NONE s_OPEN s_EXACT) w10 w11))])) _
          refine Jvm.RoadKit.acmp (g := (mkF m 66 #[.val (.int p1), .val (.int p2), .val (.ref (own_f1 p1 s_NONE s_OPEN s_EXACT)), .val (.ref (own_f1 p2 s_NONE s_OPEN s_EXACT)), .val (.ref s_OPEN)] [(.ref s_OPEN), (.ref (own_f2 (own_f1 p1 s_NONE s_OPEN s_EXACT) (own_f1 p2 s_NONE s_OPEN s_EXACT) w10 w11))])) X21 hx rfl rfl rfl (pc0 := 66) (pc' := 69) (same := true) rfl (hb hby at_66) rfl (decide_eq_true (congrArg Value.ref (hq66_3 hc6 hc13 hc18))) (by decide) (by decide) ?_
          show Steps p.tables e below (T21.setTop (mkF m 69 #[.val (.int p1), .val (.int p2), .val (.ref (own_f1 p1 s_NONE s_OPEN s_EXACT)), .val (.ref (own_f1 p2 s_NONE s_OPEN s_EXACT)), .val (.ref s_OPEN)] [])) _
          refine XS.iconst X21.here hx rfl (hb hby at_69) ?_
          show Steps p.tables e below (T21.setTop (mkF m 70 #[.val (.int p1), .val (.int p2), .val (.ref (own_f1 p1 s_NONE s_OPEN s_EXACT)), .val (.ref (own_f1 p2 s_NONE s_OPEN s_EXACT)), .val (.ref s_OPEN)] [(.int (1 : Int32))])) _
          refine XS.goto X21.here hx rfl (pc0 := 70) (pc' := 74) rfl (hb hby at_70) (by decide) (by decide) ?_
          show Steps p.tables e below (T21.setTop (mkF m 74 #[.val (.int p1), .val (.int p2), .val (.ref (own_f1 p1 s_NONE s_OPEN s_EXACT)), .val (.ref (own_f1 p2 s_NONE s_OPEN s_EXACT)), .val (.ref s_OPEN)] [(.int (1 : Int32))])) _
          exact retN X21 hx (t := .boolean) Bd.returns (by simp) (hb hby at_74) hr
        · show Q0 Z p1 p2 s_NONE s_OPEN s_EXACT m_cls w10 w11 h0 n0 _ T21.heap _
          rw [e21]
          exact ⟨rfl, N21⟩
      · obtain ⟨T22, X22, e22, st22⟩ := getS2 X17 hx hZ hown (host := "") (Or.inl (hw _ (List.mem_of_getElem? (i := 30) rfl))) Via.refl e17 S_OPEN (g := (mkF m 40 #[.val (.int p1), .val (.int p2), .val (.ref (own_f1 p1 s_NONE s_OPEN s_EXACT)), .val (.ref (own_f1 p2 s_NONE s_OPEN s_EXACT)), .unset] [(.ref (own_f1 p2 s_NONE s_OPEN s_EXACT))])) rfl (hb hby at_40)
        have pr24 : ∀ t, Steps p.tables e below (T22.setTop (mkF m 43 #[.val (.int p1), .val (.int p2), .val (.ref (own_f1 p1 s_NONE s_OPEN s_EXACT)), .val (.ref (own_f1 p2 s_NONE s_OPEN s_EXACT)), .unset] [(.ref s_OPEN), (.ref (own_f1 p2 s_NONE s_OPEN s_EXACT))])) t → Steps p.tables e below (s₁.setTop (entryFrame m #[(.int p1), (.int p2)] maxLocals)) t := by
          intro t k
          refine pr19 t ?_
          show Steps p.tables e below (T17.setTop (mkF m 36 #[.val (.int p1), .val (.int p2), .val (.ref (own_f1 p1 s_NONE s_OPEN s_EXACT)), .val (.ref (own_f1 p2 s_NONE s_OPEN s_EXACT)), .unset] [(.ref s_OPEN), (.ref (own_f1 p1 s_NONE s_OPEN s_EXACT))])) _
          refine Jvm.RoadKit.acmp (g := (mkF m 36 #[.val (.int p1), .val (.int p2), .val (.ref (own_f1 p1 s_NONE s_OPEN s_EXACT)), .val (.ref (own_f1 p2 s_NONE s_OPEN s_EXACT)), .unset] [(.ref s_OPEN), (.ref (own_f1 p1 s_NONE s_OPEN s_EXACT))])) X17 hx rfl rfl rfl (pc0 := 36) (pc' := 39) (same := false) rfl (hb hby at_36) rfl (decide_eq_false fun q => hc18 (Value.ref.inj q)) (by decide) (by decide) ?_
          show Steps p.tables e below (T17.setTop (mkF m 39 #[.val (.int p1), .val (.int p2), .val (.ref (own_f1 p1 s_NONE s_OPEN s_EXACT)), .val (.ref (own_f1 p2 s_NONE s_OPEN s_EXACT)), .unset] [])) _
          refine XS.aloadN X17.here hx rfl (hb hby at_39) rfl rfl ?_
          show Steps p.tables e below (T17.setTop (mkF m 40 #[.val (.int p1), .val (.int p2), .val (.ref (own_f1 p1 s_NONE s_OPEN s_EXACT)), .val (.ref (own_f1 p2 s_NONE s_OPEN s_EXACT)), .unset] [(.ref (own_f1 p2 s_NONE s_OPEN s_EXACT))])) _
          refine st22 _ ?_
          show Steps p.tables e below (T22.setTop (mkF m 43 #[.val (.int p1), .val (.int p2), .val (.ref (own_f1 p1 s_NONE s_OPEN s_EXACT)), .val (.ref (own_f1 p2 s_NONE s_OPEN s_EXACT)), .unset] [(.ref s_OPEN), (.ref (own_f1 p2 s_NONE s_OPEN s_EXACT))])) _
          exact k
        by_cases hc23 : (own_f1 p2 s_NONE s_OPEN s_EXACT) = s_OPEN
        · obtain ⟨T25, X25, e25, st25⟩ := getS2 X22 hx hZ hown (host := "") (Or.inl (hw _ (List.mem_of_getElem? (i := 30) rfl))) Via.refl e22 S_OPEN (g := (mkF m 46 #[.val (.int p1), .val (.int p2), .val (.ref (own_f1 p1 s_NONE s_OPEN s_EXACT)), .val (.ref (own_f1 p2 s_NONE s_OPEN s_EXACT)), .unset] [])) rfl (hb hby at_46)
          obtain ⟨cq26, kq26, q26a, q26b, q26c⟩ := isOf hZ e25 E_o1
          obtain ⟨_, _, ⟨T26, L26, k26, n26⟩, -, X26, ⟨Lc26, hQ26, l26, y26, z26⟩, st26⟩ := X25.virtualBack hx (y := (⟨"com/example/brass_wiring/brasswiring/GenericTypes$Assignability", "and", "(Lcom/example/brass_wiring/brasswiring/GenericTypes$Assignability;)Lcom/example/brass_wiring/brasswiring/GenericTypes$Assignability;"⟩ : MethodName)) (z := (⟨"com/example/brass_wiring/brasswiring/GenericTypes$Assignability", "and", "(Lcom/example/brass_wiring/brasswiring/GenericTypes$Assignability;)Lcom/example/brass_wiring/brasswiring/GenericTypes$Assignability;"⟩ : MethodName)) hown (mvT hZ (hw _ (List.mem_of_getElem? (i := 8) rfl))) (mvT hZ (hw _ (List.mem_of_getElem? (i := 9) rfl))) (notFace_of_selects (args := #[]) (mvT hZ (hw _ (List.mem_of_getElem? (i := 11) rfl)))) (mvT hZ (hw _ (List.mem_of_getElem? (i := 11) rfl))) (mvT hZ (hw _ (List.mem_of_getElem? (i := 10) rfl))) (by decide) (backOf (W := 0) (rm2 l Z a0 hw [] (own_f1 p1 s_NONE s_OPEN s_EXACT) (own_f1 p2 s_NONE s_OPEN s_EXACT) m_cls w10 w11 h0 n0 Z0 E_o1 M_cls E_o2 F_ordinal_o1 F_ordinal_o2) hZ (hw _ (List.mem_of_getElem? (i := 12) rfl)) (hw _ (List.mem_of_getElem? (i := 6) rfl)) (by decide) (by decide)) q26a q26c (g := (mkF m 61 #[.val (.int p1), .val (.int p2), .val (.ref (own_f1 p1 s_NONE s_OPEN s_EXACT)), .val (.ref (own_f1 p2 s_NONE s_OPEN s_EXACT)), .val (.ref s_OPEN)] [(.ref (own_f1 p2 s_NONE s_OPEN s_EXACT)), (.ref (own_f1 p1 s_NONE s_OPEN s_EXACT))])) rfl (by rw [hml]; rfl) (Steps.refl _) (argsL := [(.ref (own_f1 p2 s_NONE s_OPEN s_EXACT))]) (rest := []) (lenOf pd_0_1 rfl) rfl (by show 2 * 0 + _ ≤ _; exact Nat.le_of_eq rfl) (hb hby at_61) (fun _ _ => ⟨rfl, e25, (by decide : 0 + 0 ≤ _), (by decide : 0 + 0 ≤ _)⟩)
          dsimp only [Pt.U, Pt.locs, Pt.cells, Pt.slots] at X26 l26 y26 z26 st26 hQ26
          subst l26 y26 z26
          obtain ⟨rfl, N26q, e26⟩ := hQ26
          have N26 := Fr.app N4 N26q
          obtain ⟨fs, hr, hrun, hended, hW, hsame⟩ := X26.leave (v := some (.int (1 : Int32))) (fun h => by rw [Bd.returns] at h; cases h)
          refine ⟨_, _, pr24 _ ?_, hrun, hended, _, _, rfl, ?_, ⟨_, rfl⟩, hW, hsame.mono (by decide) (by decide)⟩
          · show Steps p.tables e below (T22.setTop (mkF m 43 #[.val (.int p1), .val (.int p2), .val (.ref (own_f1 p1 s_NONE s_OPEN s_EXACT)), .val (.ref (own_f1 p2 s_NONE s_OPEN s_EXACT)), .unset] [(.ref s_OPEN), (.ref (own_f1 p2 s_NONE s_OPEN s_EXACT))])) _
            refine Jvm.RoadKit.acmp (g := (mkF m 43 #[.val (.int p1), .val (.int p2), .val (.ref (own_f1 p1 s_NONE s_OPEN s_EXACT)), .val (.ref (own_f1 p2 s_NONE s_OPEN s_EXACT)), .unset] [(.ref s_OPEN), (.ref (own_f1 p2 s_NONE s_OPEN s_EXACT))])) X22 hx rfl rfl rfl (pc0 := 43) (pc' := 46) (same := true) rfl (hb hby at_43) rfl (decide_eq_true (congrArg Value.ref hc23)) (by decide) (by decide) ?_
            show Steps p.tables e below (T22.setTop (mkF m 46 #[.val (.int p1), .val (.int p2), .val (.ref (own_f1 p1 s_NONE s_OPEN s_EXACT)), .val (.ref (own_f1 p2 s_NONE s_OPEN s_EXACT)), .unset] [])) _
            refine st25 _ ?_
            show Steps p.tables e below (T25.setTop (mkF m 49 #[.val (.int p1), .val (.int p2), .val (.ref (own_f1 p1 s_NONE s_OPEN s_EXACT)), .val (.ref (own_f1 p2 s_NONE s_OPEN s_EXACT)), .unset] [(.ref s_OPEN)])) _
            refine XS.astore X25.here hx rfl (hb hby at_49) rfl rfl (l' := #[.val (.int p1), .val (.int p2), .val (.ref (own_f1 p1 s_NONE s_OPEN s_EXACT)), .val (.ref (own_f1 p2 s_NONE s_OPEN s_EXACT)), .val (.ref s_OPEN)]) rfl ?_
            show Steps p.tables e below (T25.setTop (mkF m 51 #[.val (.int p1), .val (.int p2), .val (.ref (own_f1 p1 s_NONE s_OPEN s_EXACT)), .val (.ref (own_f1 p2 s_NONE s_OPEN s_EXACT)), .val (.ref s_OPEN)] [])) _
            refine XS.goto X25.here hx rfl (pc0 := 51) (pc' := 59) rfl (hb hby at_51) (by decide) (by decide) ?_
            show Steps p.tables e below (T25.setTop (mkF m 59 #[.val (.int p1), .val (.int p2), .val (.ref (own_f1 p1 s_NONE s_OPEN s_EXACT)), .val (.ref (own_f1 p2 s_NONE s_OPEN s_EXACT)), .val (.ref s_OPEN)] [])) _
            refine XS.aloadN X25.here hx rfl (hb hby at_59) rfl rfl ?_
            show Steps p.tables e below (T25.setTop (mkF m 60 #[.val (.int p1), .val (.int p2), .val (.ref (own_f1 p1 s_NONE s_OPEN s_EXACT)), .val (.ref (own_f1 p2 s_NONE s_OPEN s_EXACT)), .val (.ref s_OPEN)] [(.ref (own_f1 p1 s_NONE s_OPEN s_EXACT))])) _
            refine XS.aloadN X25.here hx rfl (hb hby at_60) rfl rfl ?_
            show Steps p.tables e below (T25.setTop (mkF m 61 #[.val (.int p1), .val (.int p2), .val (.ref (own_f1 p1 s_NONE s_OPEN s_EXACT)), .val (.ref (own_f1 p2 s_NONE s_OPEN s_EXACT)), .val (.ref s_OPEN)] [(.ref (own_f1 p2 s_NONE s_OPEN s_EXACT)), (.ref (own_f1 p1 s_NONE s_OPEN s_EXACT))])) _
            refine st26.trans ?_
            show Steps p.tables e below (T26.setTop (mkF m 64 #[.val (.int p1), .val (.int p2), .val (.ref (own_f1 p1 s_NONE s_OPEN s_EXACT)), .val (.ref (own_f1 p2 s_NONE s_OPEN s_EXACT)), .val (.ref s_OPEN)] [(.ref (own_f2 (own_f1 p1 s_NONE s_OPEN s_EXACT) (own_f1 p2 s_NONE s_OPEN s_EXACT) w10 w11))])) _
            refine XS.aload X26.here hx rfl (hb hby at_64) rfl rfl ?_
            show Steps p.tables e below (T26.setTop (mkF m 66 #[.val (.int p1), .val (.int p2), .val (.ref (own_f1 p1 s_NONE s_OPEN s_EXACT)), .val (.ref (own_f1 p2 s_NONE s_OPEN s_EXACT)), .val (.ref s_OPEN)] [(.ref s_OPEN), (.ref (own_f2 (own_f1 p1 s_NONE s_OPEN s_EXACT) (own_f1 p2 s_NONE s_OPEN s_EXACT) w10 w11))])) _
            refine Jvm.RoadKit.acmp (g := (mkF m 66 #[.val (.int p1), .val (.int p2), .val (.ref (own_f1 p1 s_NONE s_OPEN s_EXACT)), .val (.ref (own_f1 p2 s_NONE s_OPEN s_EXACT)), .val (.ref s_OPEN)] [(.ref s_OPEN), (.ref (own_f2 (own_f1 p1 s_NONE s_OPEN s_EXACT) (own_f1 p2 s_NONE s_OPEN s_EXACT) w10 w11))])) X26 hx rfl rfl rfl (pc0 := 66) (pc' := 69) (same := true) rfl (hb hby at_66) rfl (decide_eq_true (congrArg Value.ref (hq66_4 hc6 hc13 hc18 hc23))) (by decide) (by decide) ?_
            show Steps p.tables e below (T26.setTop (mkF m 69 #[.val (.int p1), .val (.int p2), .val (.ref (own_f1 p1 s_NONE s_OPEN s_EXACT)), .val (.ref (own_f1 p2 s_NONE s_OPEN s_EXACT)), .val (.ref s_OPEN)] [])) _
            refine XS.iconst X26.here hx rfl (hb hby at_69) ?_
            show Steps p.tables e below (T26.setTop (mkF m 70 #[.val (.int p1), .val (.int p2), .val (.ref (own_f1 p1 s_NONE s_OPEN s_EXACT)), .val (.ref (own_f1 p2 s_NONE s_OPEN s_EXACT)), .val (.ref s_OPEN)] [(.int (1 : Int32))])) _
            refine XS.goto X26.here hx rfl (pc0 := 70) (pc' := 74) rfl (hb hby at_70) (by decide) (by decide) ?_
            show Steps p.tables e below (T26.setTop (mkF m 74 #[.val (.int p1), .val (.int p2), .val (.ref (own_f1 p1 s_NONE s_OPEN s_EXACT)), .val (.ref (own_f1 p2 s_NONE s_OPEN s_EXACT)), .val (.ref s_OPEN)] [(.int (1 : Int32))])) _
            exact retN X26 hx (t := .boolean) Bd.returns (by simp) (hb hby at_74) hr
          · show Q0 Z p1 p2 s_NONE s_OPEN s_EXACT m_cls w10 w11 h0 n0 _ T26.heap _
            rw [e26]
            exact ⟨rfl, N26⟩
        · obtain ⟨T27, X27, e27, st27⟩ := getS2 X22 hx hZ hown (host := "") (Or.inl (hw _ (List.mem_of_getElem? (i := 28) rfl))) Via.refl e22 S_EXACT (g := (mkF m 54 #[.val (.int p1), .val (.int p2), .val (.ref (own_f1 p1 s_NONE s_OPEN s_EXACT)), .val (.ref (own_f1 p2 s_NONE s_OPEN s_EXACT)), .unset] [])) rfl (hb hby at_54)
          obtain ⟨cq28, kq28, q28a, q28b, q28c⟩ := isOf hZ e27 E_o1
          obtain ⟨_, _, ⟨T28, L28, k28, n28⟩, -, X28, ⟨Lc28, hQ28, l28, y28, z28⟩, st28⟩ := X27.virtualBack hx (y := (⟨"com/example/brass_wiring/brasswiring/GenericTypes$Assignability", "and", "(Lcom/example/brass_wiring/brasswiring/GenericTypes$Assignability;)Lcom/example/brass_wiring/brasswiring/GenericTypes$Assignability;"⟩ : MethodName)) (z := (⟨"com/example/brass_wiring/brasswiring/GenericTypes$Assignability", "and", "(Lcom/example/brass_wiring/brasswiring/GenericTypes$Assignability;)Lcom/example/brass_wiring/brasswiring/GenericTypes$Assignability;"⟩ : MethodName)) hown (mvT hZ (hw _ (List.mem_of_getElem? (i := 8) rfl))) (mvT hZ (hw _ (List.mem_of_getElem? (i := 9) rfl))) (notFace_of_selects (args := #[]) (mvT hZ (hw _ (List.mem_of_getElem? (i := 11) rfl)))) (mvT hZ (hw _ (List.mem_of_getElem? (i := 11) rfl))) (mvT hZ (hw _ (List.mem_of_getElem? (i := 10) rfl))) (by decide) (backOf (W := 0) (rm2 l Z a0 hw [] (own_f1 p1 s_NONE s_OPEN s_EXACT) (own_f1 p2 s_NONE s_OPEN s_EXACT) m_cls w10 w11 h0 n0 Z0 E_o1 M_cls E_o2 F_ordinal_o1 F_ordinal_o2) hZ (hw _ (List.mem_of_getElem? (i := 12) rfl)) (hw _ (List.mem_of_getElem? (i := 6) rfl)) (by decide) (by decide)) q28a q28c (g := (mkF m 61 #[.val (.int p1), .val (.int p2), .val (.ref (own_f1 p1 s_NONE s_OPEN s_EXACT)), .val (.ref (own_f1 p2 s_NONE s_OPEN s_EXACT)), .val (.ref s_EXACT)] [(.ref (own_f1 p2 s_NONE s_OPEN s_EXACT)), (.ref (own_f1 p1 s_NONE s_OPEN s_EXACT))])) rfl (by rw [hml]; rfl) (Steps.refl _) (argsL := [(.ref (own_f1 p2 s_NONE s_OPEN s_EXACT))]) (rest := []) (lenOf pd_0_1 rfl) rfl (by show 2 * 0 + _ ≤ _; exact Nat.le_of_eq rfl) (hb hby at_61) (fun _ _ => ⟨rfl, e27, (by decide : 0 + 0 ≤ _), (by decide : 0 + 0 ≤ _)⟩)
          dsimp only [Pt.U, Pt.locs, Pt.cells, Pt.slots] at X28 l28 y28 z28 st28 hQ28
          subst l28 y28 z28
          obtain ⟨rfl, N28q, e28⟩ := hQ28
          have N28 := Fr.app N4 N28q
          obtain ⟨fs, hr, hrun, hended, hW, hsame⟩ := X28.leave (v := some (.int (1 : Int32))) (fun h => by rw [Bd.returns] at h; cases h)
          refine ⟨_, _, pr24 _ ?_, hrun, hended, _, _, rfl, ?_, ⟨_, rfl⟩, hW, hsame.mono (by decide) (by decide)⟩
          · show Steps p.tables e below (T22.setTop (mkF m 43 #[.val (.int p1), .val (.int p2), .val (.ref (own_f1 p1 s_NONE s_OPEN s_EXACT)), .val (.ref (own_f1 p2 s_NONE s_OPEN s_EXACT)), .unset] [(.ref s_OPEN), (.ref (own_f1 p2 s_NONE s_OPEN s_EXACT))])) _
            refine Jvm.RoadKit.acmp (g := (mkF m 43 #[.val (.int p1), .val (.int p2), .val (.ref (own_f1 p1 s_NONE s_OPEN s_EXACT)), .val (.ref (own_f1 p2 s_NONE s_OPEN s_EXACT)), .unset] [(.ref s_OPEN), (.ref (own_f1 p2 s_NONE s_OPEN s_EXACT))])) X22 hx rfl rfl rfl (pc0 := 43) (pc' := 54) (same := false) rfl (hb hby at_43) rfl (decide_eq_false fun q => hc23 (Value.ref.inj q)) (by decide) (by decide) ?_
            show Steps p.tables e below (T22.setTop (mkF m 54 #[.val (.int p1), .val (.int p2), .val (.ref (own_f1 p1 s_NONE s_OPEN s_EXACT)), .val (.ref (own_f1 p2 s_NONE s_OPEN s_EXACT)), .unset] [])) _
            refine st27 _ ?_
            show Steps p.tables e below (T27.setTop (mkF m 57 #[.val (.int p1), .val (.int p2), .val (.ref (own_f1 p1 s_NONE s_OPEN s_EXACT)), .val (.ref (own_f1 p2 s_NONE s_OPEN s_EXACT)), .unset] [(.ref s_EXACT)])) _
            refine XS.astore X27.here hx rfl (hb hby at_57) rfl rfl (l' := #[.val (.int p1), .val (.int p2), .val (.ref (own_f1 p1 s_NONE s_OPEN s_EXACT)), .val (.ref (own_f1 p2 s_NONE s_OPEN s_EXACT)), .val (.ref s_EXACT)]) rfl ?_
            show Steps p.tables e below (T27.setTop (mkF m 59 #[.val (.int p1), .val (.int p2), .val (.ref (own_f1 p1 s_NONE s_OPEN s_EXACT)), .val (.ref (own_f1 p2 s_NONE s_OPEN s_EXACT)), .val (.ref s_EXACT)] [])) _
            refine XS.aloadN X27.here hx rfl (hb hby at_59) rfl rfl ?_
            show Steps p.tables e below (T27.setTop (mkF m 60 #[.val (.int p1), .val (.int p2), .val (.ref (own_f1 p1 s_NONE s_OPEN s_EXACT)), .val (.ref (own_f1 p2 s_NONE s_OPEN s_EXACT)), .val (.ref s_EXACT)] [(.ref (own_f1 p1 s_NONE s_OPEN s_EXACT))])) _
            refine XS.aloadN X27.here hx rfl (hb hby at_60) rfl rfl ?_
            show Steps p.tables e below (T27.setTop (mkF m 61 #[.val (.int p1), .val (.int p2), .val (.ref (own_f1 p1 s_NONE s_OPEN s_EXACT)), .val (.ref (own_f1 p2 s_NONE s_OPEN s_EXACT)), .val (.ref s_EXACT)] [(.ref (own_f1 p2 s_NONE s_OPEN s_EXACT)), (.ref (own_f1 p1 s_NONE s_OPEN s_EXACT))])) _
            refine st28.trans ?_
            show Steps p.tables e below (T28.setTop (mkF m 64 #[.val (.int p1), .val (.int p2), .val (.ref (own_f1 p1 s_NONE s_OPEN s_EXACT)), .val (.ref (own_f1 p2 s_NONE s_OPEN s_EXACT)), .val (.ref s_EXACT)] [(.ref (own_f2 (own_f1 p1 s_NONE s_OPEN s_EXACT) (own_f1 p2 s_NONE s_OPEN s_EXACT) w10 w11))])) _
            refine XS.aload X28.here hx rfl (hb hby at_64) rfl rfl ?_
            show Steps p.tables e below (T28.setTop (mkF m 66 #[.val (.int p1), .val (.int p2), .val (.ref (own_f1 p1 s_NONE s_OPEN s_EXACT)), .val (.ref (own_f1 p2 s_NONE s_OPEN s_EXACT)), .val (.ref s_EXACT)] [(.ref s_EXACT), (.ref (own_f2 (own_f1 p1 s_NONE s_OPEN s_EXACT) (own_f1 p2 s_NONE s_OPEN s_EXACT) w10 w11))])) _
            refine Jvm.RoadKit.acmp (g := (mkF m 66 #[.val (.int p1), .val (.int p2), .val (.ref (own_f1 p1 s_NONE s_OPEN s_EXACT)), .val (.ref (own_f1 p2 s_NONE s_OPEN s_EXACT)), .val (.ref s_EXACT)] [(.ref s_EXACT), (.ref (own_f2 (own_f1 p1 s_NONE s_OPEN s_EXACT) (own_f1 p2 s_NONE s_OPEN s_EXACT) w10 w11))])) X28 hx rfl rfl rfl (pc0 := 66) (pc' := 69) (same := true) rfl (hb hby at_66) rfl (decide_eq_true (congrArg Value.ref (hq66_5 hc6 hc13 hc18 hc23))) (by decide) (by decide) ?_
            show Steps p.tables e below (T28.setTop (mkF m 69 #[.val (.int p1), .val (.int p2), .val (.ref (own_f1 p1 s_NONE s_OPEN s_EXACT)), .val (.ref (own_f1 p2 s_NONE s_OPEN s_EXACT)), .val (.ref s_EXACT)] [])) _
            refine XS.iconst X28.here hx rfl (hb hby at_69) ?_
            show Steps p.tables e below (T28.setTop (mkF m 70 #[.val (.int p1), .val (.int p2), .val (.ref (own_f1 p1 s_NONE s_OPEN s_EXACT)), .val (.ref (own_f1 p2 s_NONE s_OPEN s_EXACT)), .val (.ref s_EXACT)] [(.int (1 : Int32))])) _
            refine XS.goto X28.here hx rfl (pc0 := 70) (pc' := 74) rfl (hb hby at_70) (by decide) (by decide) ?_
            show Steps p.tables e below (T28.setTop (mkF m 74 #[.val (.int p1), .val (.int p2), .val (.ref (own_f1 p1 s_NONE s_OPEN s_EXACT)), .val (.ref (own_f1 p2 s_NONE s_OPEN s_EXACT)), .val (.ref s_EXACT)] [(.int (1 : Int32))])) _
            exact retN X28 hx (t := .boolean) Bd.returns (by simp) (hb hby at_74) hr
          · show Q0 Z p1 p2 s_NONE s_OPEN s_EXACT m_cls w10 w11 h0 n0 _ T28.heap _
            rw [e28]
            exact ⟨rfl, N28⟩
set_option maxRecDepth 65536 in
set_option maxHeartbeats 40000000 in
theorem comes_1 {Post : Tables → Env → Array Value → State → Outcome → State → Prop} (hpost : ∀ tb e args s v u, (limb_1_1.after args s (.returned v) u = true ∧ limb_1_2.after args s (.returned v) u = true ∧ True) → FrameEnd s (.returned v) u (Jvm.fieldLocs frame_1_writes args s ++ Jvm.arrayLocs frame_1_arrays args s ++ Jvm.staticLocs frame_1_statics s) 0 0 → Post tb e args s (.returned v) u) :
    ArmFor flags0 classFile x code maxLocals ret World_1 tables_1 room_1 Calls_1 rest_1 Pre_1 Post := by
  intro l hfl _ _ p e ha hc hk s m args below hf hA hF happ hP
  obtain ⟨hcalls, hrest, hpre⟩ := hP
  obtain ⟨-, -, -, hnamed, -, -, -, hat⟩ := (Spec.applies_iff hf).mp happ
  obtain ⟨hg, hn⟩ := and_e (Cond.before_iff.mp (show (Jvm.Cond.and given_1 narrow_1).before args s = true from hpre))
  obtain ⟨c1, c2⟩ := and_e hg
  obtain ⟨c3, c4⟩ := and_e c2
  obtain ⟨w0, w1, rfl⟩ : ∃ w0 w1 : Value, args = #[w0, w1] := by
    have hs : args.size = 2 := by simpa [Cond.value, given_1] using c1
    obtain ⟨L⟩ := args
    match L, hs with
    | [w0, w1], _ => exact ⟨w0, w1, rfl⟩
  have hw := fun d (hd : d ∈ tables_1) => atoms_spec (ws := Jvm.Cond.code x code maxLocals ret :: tables_1) hat d (List.mem_cons_of_mem _ hd)
  have hfit : Fit s := fun {y c} hc i hi => by
    obtain ⟨ha, rfl⟩ := Array.getElem?_eq_some_iff.mp hc
    have q := List.all_eq_true.mp ((Array.all_eq_true_iff_forall_mem.mp hF) _ (Array.getElem_mem ha)) i (List.mem_range.mpr hi)
    simpa [Array.getElem?_eq_getElem hi] using q
  obtain ⟨i0, ei0⟩ := is_v c3
  obtain rfl : w0 = (.int i0) := Option.some.inj ei0
  obtain ⟨i1, ei1⟩ := is_v c4
  obtain rfl : w1 = (.int i1) := Option.some.inj ei1
  obtain ⟨c5, c6⟩ := and_e hn
  obtain ⟨c7, c8⟩ := and_e c6
  obtain ⟨c9, c10⟩ := and_e c8
  obtain ⟨c11, c12⟩ := and_e c10
  obtain ⟨c13, c14⟩ := and_e c12
  obtain ⟨s_NONE, ev_NONE⟩ := exa_v c5
  have E_NONE := Exa.start ev_NONE c5
  have S_NONE := Sta.start ev_NONE (Or.inr ⟨(hw _ (List.mem_of_getElem? (i := 6) rfl)), (hw _ (List.mem_of_getElem? (i := 7) rfl))⟩)
  obtain ⟨s_EXACT, ev_EXACT⟩ := exa_v c9
  have E_EXACT := Exa.start ev_EXACT c9
  have S_EXACT := Sta.start ev_EXACT (Or.inr ⟨(hw _ (List.mem_of_getElem? (i := 6) rfl)), (hw _ (List.mem_of_getElem? (i := 29) rfl))⟩)
  obtain ⟨s_OPEN, ev_OPEN⟩ := exa_v c11
  have E_OPEN := Exa.start ev_OPEN c11
  have S_OPEN := Sta.start ev_OPEN (Or.inr ⟨(hw _ (List.mem_of_getElem? (i := 6) rfl)), (hw _ (List.mem_of_getElem? (i := 31) rfl))⟩)
  have F_NONE_ordinal := own_fldI ev_NONE c7
  have F_EXACT_ordinal := own_fldI ev_EXACT c13
  have F_OPEN_ordinal := own_fldI ev_OPEN c14
  obtain ⟨⟨cM, kM, m_cls, hM1, hM2, hM3, -⟩, -⟩ := hcalls
  have M_cls : own_Mir s "com/example/brass_wiring/brasswiring/GenericTypes$Assignability" m_cls := ⟨cM, kM, hM1, hM2, hM3⟩
  have ne_s_NONE_s_OPEN : ¬ (s_NONE = s_OPEN) := Fld.ne F_NONE_ordinal F_OPEN_ordinal (by decide)
  have ne_s_NONE_s_EXACT : ¬ (s_NONE = s_EXACT) := Fld.ne F_NONE_ordinal F_EXACT_ordinal (by decide)
  have ne_s_OPEN_s_NONE : ¬ (s_OPEN = s_NONE) := Fld.ne F_OPEN_ordinal F_NONE_ordinal (by decide)
  have ne_s_OPEN_s_EXACT : ¬ (s_OPEN = s_EXACT) := Fld.ne F_OPEN_ordinal F_EXACT_ordinal (by decide)
  have ne_s_EXACT_s_NONE : ¬ (s_EXACT = s_NONE) := Fld.ne F_EXACT_ordinal F_NONE_ordinal (by decide)
  have ne_s_EXACT_s_OPEN : ¬ (s_EXACT = s_OPEN) := Fld.ne F_EXACT_ordinal F_OPEN_ordinal (by decide)
  have hd0 := own_mod i0 3 3 (by decide) (by decide)
  have hd1 := own_mod i1 3 3 (by decide) (by decide)
  have key : ∃ w10 w11 : Int32, (Exa s s.heap (own_f1 i0 s_NONE s_OPEN s_EXACT) "com/example/brass_wiring/brasswiring/GenericTypes$Assignability") ∧ (Exa s s.heap (own_f1 i1 s_NONE s_OPEN s_EXACT) "com/example/brass_wiring/brasswiring/GenericTypes$Assignability") ∧ (Fld s s.heap (own_f1 i0 s_NONE s_OPEN s_EXACT) "java/lang/Enum" "ordinal" "I" (.int w10)) ∧ (Fld s s.heap (own_f1 i1 s_NONE s_OPEN s_EXACT) "java/lang/Enum" "ordinal" "I" (.int w11)) ∧ (((own_f1 i0 s_NONE s_OPEN s_EXACT) = s_NONE) → (own_f2 (own_f1 i0 s_NONE s_OPEN s_EXACT) (own_f1 i1 s_NONE s_OPEN s_EXACT) w10 w11) = s_NONE) ∧ ((¬ ((own_f1 i0 s_NONE s_OPEN s_EXACT) = s_NONE)) → ((own_f1 i1 s_NONE s_OPEN s_EXACT) = s_NONE) → (own_f2 (own_f1 i0 s_NONE s_OPEN s_EXACT) (own_f1 i1 s_NONE s_OPEN s_EXACT) w10 w11) = s_NONE) ∧ ((¬ ((own_f1 i0 s_NONE s_OPEN s_EXACT) = s_NONE)) → (¬ ((own_f1 i1 s_NONE s_OPEN s_EXACT) = s_NONE)) → ((own_f1 i0 s_NONE s_OPEN s_EXACT) = s_OPEN) → (own_f2 (own_f1 i0 s_NONE s_OPEN s_EXACT) (own_f1 i1 s_NONE s_OPEN s_EXACT) w10 w11) = s_OPEN) ∧ ((¬ ((own_f1 i0 s_NONE s_OPEN s_EXACT) = s_NONE)) → (¬ ((own_f1 i1 s_NONE s_OPEN s_EXACT) = s_NONE)) → (¬ ((own_f1 i0 s_NONE s_OPEN s_EXACT) = s_OPEN)) → ((own_f1 i1 s_NONE s_OPEN s_EXACT) = s_OPEN) → (own_f2 (own_f1 i0 s_NONE s_OPEN s_EXACT) (own_f1 i1 s_NONE s_OPEN s_EXACT) w10 w11) = s_OPEN) ∧ ((¬ ((own_f1 i0 s_NONE s_OPEN s_EXACT) = s_NONE)) → (¬ ((own_f1 i1 s_NONE s_OPEN s_EXACT) = s_NONE)) → (¬ ((own_f1 i0 s_NONE s_OPEN s_EXACT) = s_OPEN)) → (¬ ((own_f1 i1 s_NONE s_OPEN s_EXACT) = s_OPEN)) → (own_f2 (own_f1 i0 s_NONE s_OPEN s_EXACT) (own_f1 i1 s_NONE s_OPEN s_EXACT) w10 w11) = s_EXACT) := by
    rcases own_upto3 _ hd0.1 hd0.2 with hk0 | hk0 | hk0 <;> rcases own_upto3 _ hd1.1 hd1.2 with hk1 | hk1 | hk1
    · rw [show (own_f1 i0 s_NONE s_OPEN s_EXACT) = s_NONE from by unfold own_f1; rw [hk0, if_pos (by decide : (0 : Int32) = (0 : Int32))], show (own_f1 i1 s_NONE s_OPEN s_EXACT) = s_NONE from by unfold own_f1; rw [hk1, if_pos (by decide : (0 : Int32) = (0 : Int32))]]
      have h2 : (own_f2 s_NONE s_NONE (0 : Int32) (0 : Int32)) = s_NONE := by unfold own_f2; rw [if_neg (by decide : ¬ ((0 : Int32) < ((0 : Int32) - (0 : Int32))))]
      refine ⟨(0 : Int32), (0 : Int32), E_NONE, E_NONE, F_NONE_ordinal, F_NONE_ordinal, (by rw [h2]; intros; first | rfl | contradiction), (by rw [h2]; intros; first | rfl | contradiction), (by rw [h2]; intros; first | rfl | contradiction), (by rw [h2]; intros; first | rfl | contradiction), (by rw [h2]; intros; first | rfl | contradiction)⟩
    · rw [show (own_f1 i0 s_NONE s_OPEN s_EXACT) = s_NONE from by unfold own_f1; rw [hk0, if_pos (by decide : (0 : Int32) = (0 : Int32))], show (own_f1 i1 s_NONE s_OPEN s_EXACT) = s_OPEN from by unfold own_f1; rw [hk1, if_neg (by decide : ¬ ((1 : Int32) = (0 : Int32))), if_pos (by decide : (1 : Int32) = (1 : Int32))]]
      have h2 : (own_f2 s_NONE s_OPEN (0 : Int32) (1 : Int32)) = s_NONE := by unfold own_f2; rw [if_neg (by decide : ¬ ((0 : Int32) < ((0 : Int32) - (1 : Int32))))]
      refine ⟨(0 : Int32), (1 : Int32), E_NONE, E_OPEN, F_NONE_ordinal, F_OPEN_ordinal, (by rw [h2]; intros; first | rfl | contradiction), (by rw [h2]; intros; first | rfl | contradiction), (by rw [h2]; intros; first | rfl | contradiction), (by rw [h2]; intros; first | rfl | contradiction), (by rw [h2]; intros; first | rfl | contradiction)⟩
    · rw [show (own_f1 i0 s_NONE s_OPEN s_EXACT) = s_NONE from by unfold own_f1; rw [hk0, if_pos (by decide : (0 : Int32) = (0 : Int32))], show (own_f1 i1 s_NONE s_OPEN s_EXACT) = s_EXACT from by unfold own_f1; rw [hk1, if_neg (by decide : ¬ ((2 : Int32) = (0 : Int32))), if_neg (by decide : ¬ ((2 : Int32) = (1 : Int32)))]]
      have h2 : (own_f2 s_NONE s_EXACT (0 : Int32) (2 : Int32)) = s_NONE := by unfold own_f2; rw [if_neg (by decide : ¬ ((0 : Int32) < ((0 : Int32) - (2 : Int32))))]
      refine ⟨(0 : Int32), (2 : Int32), E_NONE, E_EXACT, F_NONE_ordinal, F_EXACT_ordinal, (by rw [h2]; intros; first | rfl | contradiction), (by rw [h2]; intros; first | rfl | contradiction), (by rw [h2]; intros; first | rfl | contradiction), (by rw [h2]; intros; first | rfl | contradiction), (by rw [h2]; intros; first | rfl | contradiction)⟩
    · rw [show (own_f1 i0 s_NONE s_OPEN s_EXACT) = s_OPEN from by unfold own_f1; rw [hk0, if_neg (by decide : ¬ ((1 : Int32) = (0 : Int32))), if_pos (by decide : (1 : Int32) = (1 : Int32))], show (own_f1 i1 s_NONE s_OPEN s_EXACT) = s_NONE from by unfold own_f1; rw [hk1, if_pos (by decide : (0 : Int32) = (0 : Int32))]]
      have h2 : (own_f2 s_OPEN s_NONE (1 : Int32) (0 : Int32)) = s_NONE := by unfold own_f2; rw [if_pos (by decide : (0 : Int32) < ((1 : Int32) - (0 : Int32)))]
      refine ⟨(1 : Int32), (0 : Int32), E_OPEN, E_NONE, F_OPEN_ordinal, F_NONE_ordinal, (by rw [h2]; intros; first | rfl | contradiction), (by rw [h2]; intros; first | rfl | contradiction), (by rw [h2]; intros; first | rfl | contradiction), (by rw [h2]; intros; first | rfl | contradiction), (by rw [h2]; intros; first | rfl | contradiction)⟩
    · rw [show (own_f1 i0 s_NONE s_OPEN s_EXACT) = s_OPEN from by unfold own_f1; rw [hk0, if_neg (by decide : ¬ ((1 : Int32) = (0 : Int32))), if_pos (by decide : (1 : Int32) = (1 : Int32))], show (own_f1 i1 s_NONE s_OPEN s_EXACT) = s_OPEN from by unfold own_f1; rw [hk1, if_neg (by decide : ¬ ((1 : Int32) = (0 : Int32))), if_pos (by decide : (1 : Int32) = (1 : Int32))]]
      have h2 : (own_f2 s_OPEN s_OPEN (1 : Int32) (1 : Int32)) = s_OPEN := by unfold own_f2; rw [if_neg (by decide : ¬ ((0 : Int32) < ((1 : Int32) - (1 : Int32))))]
      refine ⟨(1 : Int32), (1 : Int32), E_OPEN, E_OPEN, F_OPEN_ordinal, F_OPEN_ordinal, (by rw [h2]; intros; first | rfl | contradiction), (by rw [h2]; intros; first | rfl | contradiction), (by rw [h2]; intros; first | rfl | contradiction), (by rw [h2]; intros; first | rfl | contradiction), (by rw [h2]; intros; first | rfl | contradiction)⟩
    · rw [show (own_f1 i0 s_NONE s_OPEN s_EXACT) = s_OPEN from by unfold own_f1; rw [hk0, if_neg (by decide : ¬ ((1 : Int32) = (0 : Int32))), if_pos (by decide : (1 : Int32) = (1 : Int32))], show (own_f1 i1 s_NONE s_OPEN s_EXACT) = s_EXACT from by unfold own_f1; rw [hk1, if_neg (by decide : ¬ ((2 : Int32) = (0 : Int32))), if_neg (by decide : ¬ ((2 : Int32) = (1 : Int32)))]]
      have h2 : (own_f2 s_OPEN s_EXACT (1 : Int32) (2 : Int32)) = s_OPEN := by unfold own_f2; rw [if_neg (by decide : ¬ ((0 : Int32) < ((1 : Int32) - (2 : Int32))))]
      refine ⟨(1 : Int32), (2 : Int32), E_OPEN, E_EXACT, F_OPEN_ordinal, F_EXACT_ordinal, (by rw [h2]; intros; first | rfl | contradiction), (by rw [h2]; intros; first | rfl | contradiction), (by rw [h2]; intros; first | rfl | contradiction), (by rw [h2]; intros; first | rfl | contradiction), (by rw [h2]; intros; first | rfl | contradiction)⟩
    · rw [show (own_f1 i0 s_NONE s_OPEN s_EXACT) = s_EXACT from by unfold own_f1; rw [hk0, if_neg (by decide : ¬ ((2 : Int32) = (0 : Int32))), if_neg (by decide : ¬ ((2 : Int32) = (1 : Int32)))], show (own_f1 i1 s_NONE s_OPEN s_EXACT) = s_NONE from by unfold own_f1; rw [hk1, if_pos (by decide : (0 : Int32) = (0 : Int32))]]
      have h2 : (own_f2 s_EXACT s_NONE (2 : Int32) (0 : Int32)) = s_NONE := by unfold own_f2; rw [if_pos (by decide : (0 : Int32) < ((2 : Int32) - (0 : Int32)))]
      refine ⟨(2 : Int32), (0 : Int32), E_EXACT, E_NONE, F_EXACT_ordinal, F_NONE_ordinal, (by rw [h2]; intros; first | rfl | contradiction), (by rw [h2]; intros; first | rfl | contradiction), (by rw [h2]; intros; first | rfl | contradiction), (by rw [h2]; intros; first | rfl | contradiction), (by rw [h2]; intros; first | rfl | contradiction)⟩
    · rw [show (own_f1 i0 s_NONE s_OPEN s_EXACT) = s_EXACT from by unfold own_f1; rw [hk0, if_neg (by decide : ¬ ((2 : Int32) = (0 : Int32))), if_neg (by decide : ¬ ((2 : Int32) = (1 : Int32)))], show (own_f1 i1 s_NONE s_OPEN s_EXACT) = s_OPEN from by unfold own_f1; rw [hk1, if_neg (by decide : ¬ ((1 : Int32) = (0 : Int32))), if_pos (by decide : (1 : Int32) = (1 : Int32))]]
      have h2 : (own_f2 s_EXACT s_OPEN (2 : Int32) (1 : Int32)) = s_OPEN := by unfold own_f2; rw [if_pos (by decide : (0 : Int32) < ((2 : Int32) - (1 : Int32)))]
      refine ⟨(2 : Int32), (1 : Int32), E_EXACT, E_OPEN, F_EXACT_ordinal, F_OPEN_ordinal, (by rw [h2]; intros; first | rfl | contradiction), (by rw [h2]; intros; first | rfl | contradiction), (by rw [h2]; intros; first | rfl | contradiction), (by rw [h2]; intros; first | rfl | contradiction), (by rw [h2]; intros; first | rfl | contradiction)⟩
    · rw [show (own_f1 i0 s_NONE s_OPEN s_EXACT) = s_EXACT from by unfold own_f1; rw [hk0, if_neg (by decide : ¬ ((2 : Int32) = (0 : Int32))), if_neg (by decide : ¬ ((2 : Int32) = (1 : Int32)))], show (own_f1 i1 s_NONE s_OPEN s_EXACT) = s_EXACT from by unfold own_f1; rw [hk1, if_neg (by decide : ¬ ((2 : Int32) = (0 : Int32))), if_neg (by decide : ¬ ((2 : Int32) = (1 : Int32)))]]
      have h2 : (own_f2 s_EXACT s_EXACT (2 : Int32) (2 : Int32)) = s_EXACT := by unfold own_f2; rw [if_neg (by decide : ¬ ((0 : Int32) < ((2 : Int32) - (2 : Int32))))]
      refine ⟨(2 : Int32), (2 : Int32), E_EXACT, E_EXACT, F_EXACT_ordinal, F_EXACT_ordinal, (by rw [h2]; intros; first | rfl | contradiction), (by rw [h2]; intros; first | rfl | contradiction), (by rw [h2]; intros; first | rfl | contradiction), (by rw [h2]; intros; first | rfl | contradiction), (by rw [h2]; intros; first | rfl | contradiction)⟩
  obtain ⟨w10, w11, E_o1, E_o2, F_ordinal_o1, F_ordinal_o2, hq66_1, hq66_2, hq66_3, hq66_4, hq66_5⟩ := key
  obtain ⟨n, o, h1, h2, h3, _, L, rfl, ⟨rfl, N⟩, hq⟩ := rm0 l s _ hw tables_1 i0 i1 s_NONE s_OPEN s_EXACT m_cls w10 w11 s.heap s.heap.size (Nat.le_refl _) S_NONE S_OPEN S_EXACT E_o1 M_cls E_o2 F_ordinal_o1 F_ordinal_o2 hq66_1 hq66_2 hq66_3 hq66_4 hq66_5 p e ha hc hk s m _ below hf ((Spec.applies_iff_loose hf).mp happ).1 ⟨rfl, State.Warmed39.refl s, rfl⟩ trivial
  refine ⟨n, _, h1, h2, h3, hpost _ _ _ _ _ _ ⟨Cond.after_iff.mpr rfl, Cond.after_iff.mpr (eq_i res_at (Term.int_eval (1)) rfl), trivial⟩ ⟨hq.1, hq.2.1, (hq.2.2.sift fun y hy => Or.inr (N y hy)).mono (by decide) (by decide)⟩⟩
theorem main_1_1 : Claimed_1_1 := comes_1 fun _ _ _ _ _ _ h hF => ⟨h.1, hF⟩
theorem main_1_2 : Claimed_1_2 := comes_1 fun _ _ _ _ _ _ h hF => ⟨h.2.1, hF⟩
end Jvm.Pilot.@@N@@
namespace Jvm.Pilot.@@N@@
open Jvm Jvm.ClassFile Sem Op Lib Jvm.Free Jvm.Stand Jvm.Pilot.@@N@@.Jvm.D
/-! MADE BY PROGRAM (witnessworld.py) out of the Statement's table words and the real class files: 13 classes; the members and pool entries that the words name. The judged class is class 1, her method 2. -/
namespace start1
open Jvm.ClassFile
def u (s : String) : CpInfo := .utf8 (stringToUtf16 s)
/-- a pool by its gaps: so many unusable entries, then the entry; so many at the end -/
def gap : Nat → List CpInfo → List CpInfo
  | 0, r => r
  | n + 1, r => .unusable :: gap n r
def poolList (es : List (Nat × CpInfo)) (last : Nat) : List CpInfo := es.foldr (fun e r => gap e.1 (e.2 :: r)) (gap last [])
def pool (es : List (Nat × CpInfo)) (last : Nat) : Array CpInfo := ⟨poolList es last⟩
def fileOf (pool : Array CpInfo) (this : Nat) (attrs : Array Attribute := #[]) (ms : Array MethodInfo := #[]) (fl : Nat := 33) (sup : Nat := 0) (ifs : Array Nat := #[]) (fds : Array FieldInfo := #[]) : ClassFile where
  minorVersion := 0
  majorVersion := 65
  constantPool := pool
  accessFlags := fl
  thisClass := this
  superClass := sup
  interfaces := ifs
  fields := fds
  methods := ms
  attributes := attrs
def plain (name : String) (sup : Option ClassId) : Class where
  name := name
  kind := .ordinary
  loader := none
  accessFlags := 33
  super := sup
  interfaces := #[]
  cf := none
  fields := #[]
  methods := #[]
  instanceTypes := #[]
  staticTypes := #[]
  resolved := #[]
  callSites := []
  init := .initialized
  statics := none
  mirror := none

def pool0 : Array CpInfo := pool [(5, u "<init>"), (0, u "()V"), (1, .class_ 10), (1, u "java/lang/Object"), (0, u "getClass"), (0, u "()Ljava/lang/Class;")] 111

def k0m0 : Method := { name := "<init>", desc := "()V", sig := { parameters := [], returnType := none }, accessFlags := 1, code := none }
def k0m1 : Method := { name := "getClass", desc := "()Ljava/lang/Class;", sig := { parameters := [], returnType := some (.object "java/lang/Class") }, accessFlags := 273, code := none }
/-- java/lang/Object -/
def k0 : Class := { plain "java/lang/Object" none with
  accessFlags := 33
  interfaces := #[]
  cf := some (fileOf pool0 8 #[] #[{ accessFlags := 1, nameIndex := 5, descriptorIndex := 6, attributes := #[] }, { accessFlags := 273, nameIndex := 11, descriptorIndex := 12, attributes := #[] }] 33 0 #[] #[])
  fields := #[]
  methods := #[k0m0, k0m1]
  instanceTypes := #[]
  staticTypes := #[]
  resolved := Array.replicate 124 none
  statics := none }

def pool1 : Array CpInfo := pool [(2, .class_ 4), (1, u "java/lang/Object"), (0, u "<init>"), (0, u "()V"), (0, .integer 2147483647), (0, .fieldref 9 10), (0, .class_ 11), (0, .nameAndType 12 13), (0, u "com/example/brass_wiring/brasswiring/GenericTypes$Assignability"), (0, u "NONE"), (0, u "Lcom/example/brass_wiring/brasswiring/GenericTypes$Assignability;"), (0, .fieldref 9 15), (0, .nameAndType 16 13), (0, u "OPEN"), (0, .fieldref 9 18), (0, .nameAndType 19 13), (0, u "EXACT"), (0, .methodref 21 22), (0, .class_ 23), (0, .nameAndType 24 25), (0, u "com/example/brass_wiring/brasswiring/AssignabilityAndPinLaw"), (0, u "pick"), (0, u "(I)Lcom/example/brass_wiring/brasswiring/GenericTypes$Assignability;"), (0, .methodref 9 27), (0, .nameAndType 28 29), (0, u "and"), (0, u "(Lcom/example/brass_wiring/brasswiring/GenericTypes$Assignability;)Lcom/example/brass_wiring/brasswiring/GenericTypes$Assignability;"), (3, u "law"), (0, u "(II)Z")] 6

def k1m0 : Method := { name := "<init>", desc := "()V", sig := { parameters := [], returnType := none }, accessFlags := 1, code := none }
def k1c1 : Code := { maxStack := 2, maxLocals := 2, code := method_2_code, exceptionTable := #[], attributes := #[] }
def k1m1 : Method := { name := "pick", desc := "(I)Lcom/example/brass_wiring/brasswiring/GenericTypes$Assignability;", sig := { parameters := [.int], returnType := some (.object "com/example/brass_wiring/brasswiring/GenericTypes$Assignability") }, accessFlags := 10, code := some k1c1 }
def k1c2 : Code := { maxStack := 2, maxLocals := 5, code := code, exceptionTable := #[], attributes := #[] }
def k1m2 : Method := { name := "law", desc := "(II)Z", sig := { parameters := [.int, .int], returnType := some .boolean }, accessFlags := 9, code := some k1c2 }
/-- com/example/brass_wiring/brasswiring/AssignabilityAndPinLaw -/
def k1 : Class := { plain "com/example/brass_wiring/brasswiring/AssignabilityAndPinLaw" (some 0) with
  accessFlags := 49
  interfaces := #[]
  cf := some (fileOf pool1 21 #[] #[{ accessFlags := 1, nameIndex := 5, descriptorIndex := 6, attributes := #[] }, { accessFlags := 10, nameIndex := 24, descriptorIndex := 25, attributes := #[] }, { accessFlags := 9, nameIndex := 33, descriptorIndex := 34, attributes := #[] }] 49 2 #[] #[])
  fields := #[]
  methods := #[k1m0, k1m1, k1m2]
  instanceTypes := #[]
  staticTypes := #[]
  resolved := Array.replicate 41 none
  statics := none }

def pool2 : Array CpInfo := pool [(1, .class_ 2), (0, u "java/lang/constant/Constable"), (0, .class_ 4), (0, u "java/lang/Object")] 6

/-- java/lang/constant/Constable -/
def k2 : Class := { plain "java/lang/constant/Constable" (some 0) with
  accessFlags := 1537
  interfaces := #[]
  cf := some (fileOf pool2 1 #[] #[] 1537 3 #[] #[])
  fields := #[]
  methods := #[]
  instanceTypes := #[]
  staticTypes := #[]
  resolved := Array.replicate 11 none
  statics := none }

def pool3 : Array CpInfo := pool [(1, .class_ 2), (0, u "java/lang/Comparable"), (0, .class_ 4), (0, u "java/lang/Object")] 7

/-- java/lang/Comparable -/
def k3 : Class := { plain "java/lang/Comparable" (some 0) with
  accessFlags := 1537
  interfaces := #[]
  cf := some (fileOf pool3 1 #[] #[] 1537 3 #[] #[])
  fields := #[]
  methods := #[]
  instanceTypes := #[]
  staticTypes := #[]
  resolved := Array.replicate 12 none
  statics := none }

def pool4 : Array CpInfo := pool [(1, .class_ 2), (0, u "java/io/Serializable"), (0, .class_ 4), (0, u "java/lang/Object")] 2

/-- java/io/Serializable -/
def k4 : Class := { plain "java/io/Serializable" (some 0) with
  accessFlags := 1537
  interfaces := #[]
  cf := some (fileOf pool4 1 #[] #[] 1537 3 #[] #[])
  fields := #[]
  methods := #[]
  instanceTypes := #[]
  staticTypes := #[]
  resolved := Array.replicate 7 none
  statics := none }

def pool5 : Array CpInfo := pool [(2, .class_ 4), (1, u "java/lang/Enum"), (0, u "name"), (0, u "Ljava/lang/String;"), (0, .fieldref 2 8), (0, .nameAndType 9 10), (0, u "ordinal"), (0, u "I"), (1, .class_ 14), (1, u "java/lang/Object"), (4, u "hash"), (9, .methodref 12 30), (0, .nameAndType 31 32), (0, u "getClass"), (0, u "()Ljava/lang/Class;"), (70, u "compareTo"), (0, u "(Ljava/lang/Enum;)I"), (1, .class_ 108), (1, u "java/lang/Enum$EnumDesc"), (2, .class_ 112), (0, u "java/lang/constant/Constable"), (0, .class_ 114), (0, u "java/lang/Comparable"), (0, .class_ 116), (0, u "java/io/Serializable")] 87

def k5c0 : Code := { maxStack := 2, maxLocals := 4, code := jdk_37_method_8_code, exceptionTable := #[], attributes := #[] }
def k5m0 : Method := { name := "compareTo", desc := "(Ljava/lang/Enum;)I", sig := { parameters := [(.object "java/lang/Enum")], returnType := some .int }, accessFlags := 17, code := some k5c0 }
/-- java/lang/Enum -/
def k5 : Class := { plain "java/lang/Enum" (some 0) with
  accessFlags := 1057
  interfaces := #[2, 3, 4]
  cf := some (fileOf pool5 2 #[.nestMembers #[106]] #[{ accessFlags := 17, nameIndex := 103, descriptorIndex := 104, attributes := #[] }] 1057 12 #[111, 113, 115] #[{ accessFlags := 18, nameIndex := 5, descriptorIndex := 6, attributes := #[] }, { accessFlags := 18, nameIndex := 9, descriptorIndex := 10, attributes := #[] }, { accessFlags := 2, nameIndex := 19, descriptorIndex := 10, attributes := #[] }])
  fields := #[{ name := "name", type := (.object "java/lang/String"), accessFlags := 18, slot := 0, constantValue := 0 }, { name := "ordinal", type := .int, accessFlags := 18, slot := 1, constantValue := 0 }, { name := "hash", type := .int, accessFlags := 2, slot := 2, constantValue := 0 }]
  methods := #[k5m0]
  instanceTypes := #[(.object "java/lang/String"), .int, .int]
  staticTypes := #[]
  resolved := Array.replicate 204 none
  statics := none }

def pool6 : Array CpInfo := pool [(1, .class_ 2), (0, u "com/example/brass_wiring/brasswiring/GenericTypes$Assignability"), (2, u "NONE"), (0, u "Lcom/example/brass_wiring/brasswiring/GenericTypes$Assignability;"), (2, u "OPEN"), (2, u "EXACT"), (2, u "$VALUES"), (0, u "[Lcom/example/brass_wiring/brasswiring/GenericTypes$Assignability;"), (6, .class_ 25), (1, u "java/lang/Enum"), (6, .methodref 1 33), (0, .nameAndType 34 35), (0, u "compareTo"), (0, u "(Ljava/lang/Enum;)I"), (18, u "and"), (0, u "(Lcom/example/brass_wiring/brasswiring/GenericTypes$Assignability;)Lcom/example/brass_wiring/brasswiring/GenericTypes$Assignability;"), (5, .class_ 62), (0, u "com/example/brass_wiring/brasswiring/GenericTypes")] 2

def k6c0 : Code := { maxStack := 2, maxLocals := 2, code := prog_7_method_5_code, exceptionTable := #[], attributes := #[] }
def k6m0 : Method := { name := "and", desc := "(Lcom/example/brass_wiring/brasswiring/GenericTypes$Assignability;)Lcom/example/brass_wiring/brasswiring/GenericTypes$Assignability;", sig := { parameters := [(.object "com/example/brass_wiring/brasswiring/GenericTypes$Assignability")], returnType := some (.object "com/example/brass_wiring/brasswiring/GenericTypes$Assignability") }, accessFlags := 0, code := some k6c0 }
/-- com/example/brass_wiring/brasswiring/GenericTypes$Assignability -/
def k6 : Class := { plain "com/example/brass_wiring/brasswiring/GenericTypes$Assignability" (some 5) with
  accessFlags := 16432
  interfaces := #[]
  cf := some (fileOf pool6 1 #[.nestHost 61] #[{ accessFlags := 0, nameIndex := 54, descriptorIndex := 55, attributes := #[] }] 16432 23 #[] #[{ accessFlags := 16409, nameIndex := 5, descriptorIndex := 6, attributes := #[] }, { accessFlags := 16409, nameIndex := 9, descriptorIndex := 6, attributes := #[] }, { accessFlags := 16409, nameIndex := 12, descriptorIndex := 6, attributes := #[] }, { accessFlags := 4122, nameIndex := 15, descriptorIndex := 16, attributes := #[] }])
  fields := #[{ name := "NONE", type := (.object "com/example/brass_wiring/brasswiring/GenericTypes$Assignability"), accessFlags := 16409, slot := 0, constantValue := 0 }, { name := "OPEN", type := (.object "com/example/brass_wiring/brasswiring/GenericTypes$Assignability"), accessFlags := 16409, slot := 1, constantValue := 0 }, { name := "EXACT", type := (.object "com/example/brass_wiring/brasswiring/GenericTypes$Assignability"), accessFlags := 16409, slot := 2, constantValue := 0 }, { name := "$VALUES", type := (.array (.object "com/example/brass_wiring/brasswiring/GenericTypes$Assignability")), accessFlags := 4122, slot := 3, constantValue := 0 }]
  methods := #[k6m0]
  instanceTypes := #[(.object "java/lang/String"), .int, .int]
  staticTypes := #[(.object "com/example/brass_wiring/brasswiring/GenericTypes$Assignability"), (.object "com/example/brass_wiring/brasswiring/GenericTypes$Assignability"), (.object "com/example/brass_wiring/brasswiring/GenericTypes$Assignability"), (.array (.object "com/example/brass_wiring/brasswiring/GenericTypes$Assignability"))]
  resolved := Array.replicate 65 none
  mirror := some 1
  statics := some 0 }

def pool7 : Array CpInfo := pool [(1, .class_ 2), (0, u "java/lang/Class"), (0, .class_ 4), (0, u "java/lang/Object")] 0

/-- java/lang/Class -/
def k7 : Class := { plain "java/lang/Class" (some 0) with
  accessFlags := 49
  interfaces := #[]
  cf := some (fileOf pool7 1 #[] #[] 49 3 #[] #[])
  fields := #[]
  methods := #[]
  instanceTypes := #[]
  staticTypes := #[]
  resolved := Array.replicate 5 none
  statics := none }

def pool8 : Array CpInfo := pool [(1, u "java/lang/Cloneable"), (0, .class_ 1), (0, u "java/lang/Object"), (0, .class_ 3)] 3

/-- java/lang/Cloneable -/
def k8 : Class := { plain "java/lang/Cloneable" (some 0) with
  accessFlags := 1537
  interfaces := #[]
  cf := some (fileOf pool8 2 #[] #[] 1537 4 #[] #[])
  fields := #[]
  methods := #[]
  instanceTypes := #[]
  staticTypes := #[]
  resolved := Array.replicate 8 none
  statics := none }

/-- the primitive byte -/
def k9 : Class := { plain "byte" none with kind := .primitive 'B', accessFlags := 0x411 }
/-- [B -/
def k10 : Class := { plain "[B" (some 0) with kind := .array 9 .byte, interfaces := #[8, 4], accessFlags := 1041 }

/-- the primitive int -/
def k11 : Class := { plain "int" none with kind := .primitive 'I', accessFlags := 0x411 }
/-- [I -/
def k12 : Class := { plain "[I" (some 0) with kind := .array 11 .int, interfaces := #[8, 4], accessFlags := 1041 }

def heap : Heap := #[{ cls := 6, slots := #[.ref 2, .ref 4, .ref 3, .null], vm := .statics 6 },
  { cls := 7, slots := #[], vm := .mirror 6 },
  { cls := 6, slots := #[.null, .int 0, .int 0], vm := .none },
  { cls := 6, slots := #[.null, .int 2, .int 0], vm := .none },
  { cls := 6, slots := #[.null, .int 1, .int 0], vm := .none }]
def classes : Array Class := #[k0, k1, k2, k3, k4, k5, k6, k7, k8, k9, k10, k11, k12]
def interned : List (Array UInt16 × Addr) := []
def slotsUsed : Nat := 13
def theMethod : MethodId := ⟨1, 2⟩
def args0 : Array Value := #[.int 5, .int 6]
def aboutOver (below : List Frame) : State where
  vm := { classes := classes, interned := interned.toArray }
  heap := heap
  slotsUsed := slotsUsed
  threads := #[{ frames := .invoking theMethod args0 :: below }]
def below0 : List Frame := [.native { method := ⟨0, 0⟩, args := #[] }]
def about1 : State := aboutOver below0
def p0 : Program := .bare "" "" ""
def e0 : Env := launch0.env 0 0 0
theorem w_frames : about1.frames = Frame.invoking theMethod args0 :: below0 := rfl
set_option maxRecDepth 65536 in
theorem w_args : argsFit about1.vm theMethod args0 = true := by decide +kernel
set_option maxRecDepth 65536 in
theorem w_heap : heapFits about1 = true := by decide +kernel
set_option maxRecDepth 65536 in
theorem w_runnable : about1.curStatus? = some .runnable := by decide +kernel
set_option maxRecDepth 65536 in
theorem w_alone : about1.alone = true := by decide +kernel
set_option maxRecDepth 65536 in
theorem w_named : about1.methodNamed? x = some theMethod := by decide +kernel
set_option maxRecDepth 65536 in
theorem w_hears : about1.hears theMethod below0 = true := by decide +kernel
set_option maxRecDepth 65536 in
theorem w_ripe : about1.ripe theMethod args0 below0 = true := by decide +kernel
theorem w_running : about1.status = .running := rfl
set_option maxRecDepth 65536 in
theorem w_room : about1.hasRoom e0.platform room_1 = true :=
  launch0.hasRoom_least _ room_1 (by decide +kernel) (by decide +kernel) (by decide +kernel) (by decide +kernel) (by decide +kernel) (by decide +kernel)
theorem allAtoms_all (ts : List Jvm.Cond) (a : Array Jvm.Value) (st : Jvm.State) : (allAtoms ts).before a st = ts.all (fun c => c.before a st) := by
  induction ts with
  | nil => rfl
  | cons c t ih =>
    show (Jvm.Cond.and c (allAtoms t)).before a st = _
    rw [Jvm.Cond.before_and, ih, List.all_cons]
def words1 : List Jvm.Cond := Jvm.Cond.code x code maxLocals ret :: tables_1
/-- a 'code' word, met by the world's own term for the bytes: nothing is compared byte by byte -/
theorem code_word {y : MethodName} {bytes : ByteArray} {mx : Nat} {rt : Option FieldType} {a : Array Value} {s : State} {m : MethodId} {meth : Method} {c : Code} (h1 : s.methodNamed? y = some m) (h2 : s.vm.method? m = some meth) (h3 : meth.code = some c) (h4 : c.code = bytes)
    (h5 : (c.maxLocals == mx && c.exceptionTable.isEmpty && decide (c.maxStack ≤ mostOperands) && decide (meth.sig.returnType = rt) && !meth.locks && decide (parseMethodDescriptor y.desc = some meth.sig)) = true) : (Jvm.Cond.code y bytes mx rt).before a s = true := by
  simp only [Bool.and_eq_true, beq_iff_eq, Bool.not_eq_true', decide_eq_true_eq] at h5
  obtain ⟨⟨⟨⟨⟨g1, g2⟩, g3⟩, g4⟩, g5⟩, g6⟩ := h5
  simp [Cond.before, Cond.holds, Cond.value, h1, h2, h3, h4, g1, g2, g3, g4, g5, g6]
def isCode : Jvm.Cond → Bool
  | .code _ _ _ _ => true
  | _ => false
theorem all_split {L : List Jvm.Cond} {P : Jvm.Cond → Bool} (h1 : L.all (fun c => isCode c || P c) = true) (h2 : ∀ c ∈ L.filter isCode, P c = true) : L.all P = true := by
  refine List.all_eq_true.mpr fun c hc => ?_
  have h := List.all_eq_true.mp h1 c hc
  rcases Bool.eq_false_or_eq_true (isCode c) with hi | hi
  · exact h2 c (List.mem_filter.mpr ⟨hc, hi⟩)
  · simpa [hi] using h
set_option maxRecDepth 65536 in
theorem w_c0 : (Jvm.Cond.code x code maxLocals ret).before args0 about1 = true := code_word (m := ⟨1, 2⟩) (meth := k1m2) (c := k1c2) (by decide +kernel) rfl rfl rfl (by decide +kernel)
set_option maxRecDepth 65536 in
theorem w_c1 : (Jvm.Cond.code ({ cls := "com/example/brass_wiring/brasswiring/AssignabilityAndPinLaw", name := "pick", desc := "(I)Lcom/example/brass_wiring/brasswiring/GenericTypes$Assignability;" } : Jvm.MethodName) method_2_code (2 : Nat) (Option.some (Jvm.ClassFile.FieldType.object "com/example/brass_wiring/brasswiring/GenericTypes$Assignability"))).before args0 about1 = true := code_word (m := ⟨1, 1⟩) (meth := k1m1) (c := k1c1) (by decide +kernel) rfl rfl rfl (by decide +kernel)
set_option maxRecDepth 65536 in
theorem w_c2 : (Jvm.Cond.code ({ cls := "com/example/brass_wiring/brasswiring/GenericTypes$Assignability", name := "and", desc := "(Lcom/example/brass_wiring/brasswiring/GenericTypes$Assignability;)Lcom/example/brass_wiring/brasswiring/GenericTypes$Assignability;" } : Jvm.MethodName) prog_7_method_5_code (2 : Nat) (Option.some (Jvm.ClassFile.FieldType.object "com/example/brass_wiring/brasswiring/GenericTypes$Assignability"))).before args0 about1 = true := code_word (m := ⟨6, 0⟩) (meth := k6m0) (c := k6c0) (by decide +kernel) rfl rfl rfl (by decide +kernel)
set_option maxRecDepth 65536 in
theorem w_c3 : (Jvm.Cond.code ({ cls := "java/lang/Enum", name := "compareTo", desc := "(Ljava/lang/Enum;)I" } : Jvm.MethodName) jdk_37_method_8_code (4 : Nat) (Option.some Jvm.ClassFile.FieldType.int)).before args0 about1 = true := code_word (m := ⟨5, 0⟩) (meth := k5m0) (c := k5c0) (by decide +kernel) rfl rfl rfl (by decide +kernel)
def codes1 : List Jvm.Cond := [Jvm.Cond.code x code maxLocals ret, Jvm.Cond.code ({ cls := "com/example/brass_wiring/brasswiring/AssignabilityAndPinLaw", name := "pick", desc := "(I)Lcom/example/brass_wiring/brasswiring/GenericTypes$Assignability;" } : Jvm.MethodName) method_2_code (2 : Nat) (Option.some (Jvm.ClassFile.FieldType.object "com/example/brass_wiring/brasswiring/GenericTypes$Assignability")), Jvm.Cond.code ({ cls := "com/example/brass_wiring/brasswiring/GenericTypes$Assignability", name := "and", desc := "(Lcom/example/brass_wiring/brasswiring/GenericTypes$Assignability;)Lcom/example/brass_wiring/brasswiring/GenericTypes$Assignability;" } : Jvm.MethodName) prog_7_method_5_code (2 : Nat) (Option.some (Jvm.ClassFile.FieldType.object "com/example/brass_wiring/brasswiring/GenericTypes$Assignability")), Jvm.Cond.code ({ cls := "java/lang/Enum", name := "compareTo", desc := "(Ljava/lang/Enum;)I" } : Jvm.MethodName) jdk_37_method_8_code (4 : Nat) (Option.some Jvm.ClassFile.FieldType.int)]
set_option maxRecDepth 65536 in
theorem codes_eq : words1.filter isCode = codes1 := rfl
theorem w_codes : ∀ c ∈ words1.filter isCode, c.before args0 about1 = true := by
  rw [codes_eq]
  intro c hc
  simp only [codes1, List.mem_cons, List.not_mem_nil, or_false] at hc
  rcases hc with rfl | rfl | rfl | rfl
  · exact w_c0
  · exact w_c1
  · exact w_c2
  · exact w_c3
set_option maxRecDepth 65536 in
theorem w_t1 : (words1.take 24).all (fun c => isCode c || c.before args0 about1) = true := by decide +kernel
set_option maxRecDepth 65536 in
theorem w_t2 : (words1.drop 24).all (fun c => isCode c || c.before args0 about1) = true := by decide +kernel
theorem w_tables : (allAtoms (Jvm.Cond.code x code maxLocals ret :: tables_1)).before args0 about1 = true := by
  rw [allAtoms_all]
  show words1.all (fun c => c.before args0 about1) = true
  refine all_split ?_ w_codes
  rw [← List.take_append_drop 24 words1, List.all_append, w_t1, w_t2]
  rfl
set_option maxRecDepth 65536 in
theorem w_case : (Jvm.Cond.and given_1 narrow_1).before args0 about1 = true := by decide +kernel
theorem w_applies : (headSpec (Jvm.Cond.code x code maxLocals ret :: tables_1) room_1).applies x e0.platform about1 = true :=
  (Spec.applies_iff w_frames).mpr ⟨w_running, w_runnable, w_alone, w_named, w_hears, w_ripe, w_room, w_tables⟩
theorem atStart : AtStart classFile x code maxLocals ret World_1 tables_1 room_1 Calls_1 rest_1 Pre_1 launch0 p0 e0 about1 theMethod args0 below0 :=
  ⟨lists_1, trivial, launch0.admits_env _ _ _, launch0.least_env, fairChoices_fair.cas, fairChoices_fair.clock, w_frames, w_args, w_heap, w_applies, ⟨⟨6, k6, 1, by decide +kernel, rfl, rfl, _, rfl, rfl⟩, trivial⟩, trivial, w_case⟩
end start1
theorem witness_1 : WitnessClaimed_1 := ⟨start1.p0, start1.e0, start1.about1, start1.theMethod, start1.args0, start1.below0, start1.atStart⟩
end Jvm.Pilot.@@N@@
