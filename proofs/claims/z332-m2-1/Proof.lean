import JvmDerived
import JvmDerived.Pilot.@@N@@Statement
import JvmDerived.Pilot.@@N@@Code
set_option linter.unusedVariables false
set_option linter.unusedSimpArgs false
namespace Jvm.RoadKit
open Sem ClassFile Op Lib Jvm.Stand Jvm.Free Jvm.LawKit
section New
variable {p : Program} {l : Launch} {e : Env} {R : Room} {s : State} {m : MethodId} {args : Array Value} {below : List Frame} {meth : Method} {c : Code} {T : State} {locs : List Loc} {cells slots : Nat}
theorem retI (X : Stand p l e R s m args below meth c T locs cells slots) (hx : p.tables.exec = Jvm.exec) {pc : Nat} {Ls : Array Slot} {z : Int32} {rest : List Value} (hret : meth.sig.returnType = some .int) (hd : decode c.code pc = .ok (.ireturn, 1)) {fs : List Frame}
    (hl : ∀ (f : JFrame) (acts : List Action), f.method = m → f.locked = none → f.entered = [] → (doReturn e (T.setTop f) acts (some (.int z))).1 = T.setFrames fs) : Steps p.tables e below (T.setTop (mkF m pc Ls (.int z :: rest))) (T.setFrames fs) := by
  have hm' : T.vm.method? m = some meth := X.method'
  have hn : narrow .int (.int z) = .int z := rfl
  show Steps p.tables e below (T.setTop { method := m, pc := pc, locals := Ls, stack := _ :: rest, locked := none }) _
  jvm_step X.here [X.here.top, hx, hd, hm', hret, hn]
  first | (intro acts; rw [hl _ acts rfl rfl rfl]) | rw [hl _ _ rfl rfl rfl]
  exact Steps.refl _
end New
end Jvm.RoadKit
namespace Jvm.Pilot.@@N@@
open Jvm Jvm.ClassFile Sem Op Lib Jvm.Free Jvm.Stand Jvm.LawKit Jvm.RoadKit Bundle Jvm.Pilot.@@N@@.Jvm.D

theorem own_fldI {Z : State} {args : Array Value} {t : Term} {C n d : String} {k : Int32} {a : Addr} (ev : t.eval args Z none [] Z = some (.ref a)) (h : (Cond.eq (.field t C n d) (.int k)).value args Z none Z [] = some true) : Fld Z Z.heap a C n d (.int k) := by
  obtain ⟨x, y, h1, h2, k1, k2⟩ := cmp_v (Or.inl h)
  have e2 : y = .int k := (Option.some.inj (h2.symm.trans (Term.int_eval k)))
  subst e2
  obtain ⟨z, rfl⟩ : ∃ z, x = .int z := k2
  have e3 : z = k := gotT (Cond.eq_ints h1 h2) h
  subst e3
  exact Fld.start ((fld_at ev).symm.trans h1)

theorem own_ne {Z : State} {h : Heap} {a b : Addr} {C n d : String} {i j : Int32} (F : Fld Z h a C n d (.int i)) (G : Fld Z h b C n d (.int j)) (hn : i ≠ j) : ¬ (a = b) := by
  rintro rfl
  obtain ⟨c1, f1, k1, i1, g1, a1, a2, -, -, -, -, a7⟩ := F
  obtain ⟨c2, f2, k2, i2, g2, b1, b2, -, -, -, -, b7⟩ := G
  cases a1.symm.trans b1
  cases a2.symm.trans b2
  exact hn (Value.int.inj (Option.some.inj (a7.symm.trans b7)))

theorem own_mod (p y : Int32) (d : Int) (hy : y.toInt = d) (hd : 0 < d) : 0 ≤ ((p &&& (2147483647 : Int32)) % y).toInt ∧ ((p &&& (2147483647 : Int32)) % y).toInt < d := by
  have h1 := (c_and p 2147483647 (by decide)).1
  have h2 := (c_irem (p &&& (2147483647 : Int32)) y d hy).1 h1
  rw [h2]; exact ⟨Int.emod_nonneg _ (by omega), Int.emod_lt_of_pos _ hd⟩
theorem own_neI {z k : Int32} {j : Int} (hk : k.toInt = j) (h : ¬ z = k) : z.toInt ≠ j := fun q => h (Int32.toInt_inj.mp (q.trans hk.symm))

theorem own_ext {h h' : Heap} (K : Keep h h' []) : Ext h h' := ⟨K.1, fun a c q => K.2.1 a c q nin0⟩

theorem own_last {z : Int32} (h : 0 ≤ z.toInt ∧ z.toInt < 18) (h0 : ¬ z = (0 : Int32)) (h1 : ¬ z = (1 : Int32)) (h2 : ¬ z = (2 : Int32)) (h3 : ¬ z = (3 : Int32)) (h4 : ¬ z = (4 : Int32)) (h5 : ¬ z = (5 : Int32)) (h6 : ¬ z = (6 : Int32)) (h7 : ¬ z = (7 : Int32)) (h8 : ¬ z = (8 : Int32)) (h9 : ¬ z = (9 : Int32)) (h10 : ¬ z = (10 : Int32)) (h11 : ¬ z = (11 : Int32)) (h12 : ¬ z = (12 : Int32)) (h13 : ¬ z = (13 : Int32)) (h14 : ¬ z = (14 : Int32)) (h15 : ¬ z = (15 : Int32)) (h16 : ¬ z = (16 : Int32)) : z = (17 : Int32) := by
  have q0 := own_neI (j := 0) (by decide) h0
  have q1 := own_neI (j := 1) (by decide) h1
  have q2 := own_neI (j := 2) (by decide) h2
  have q3 := own_neI (j := 3) (by decide) h3
  have q4 := own_neI (j := 4) (by decide) h4
  have q5 := own_neI (j := 5) (by decide) h5
  have q6 := own_neI (j := 6) (by decide) h6
  have q7 := own_neI (j := 7) (by decide) h7
  have q8 := own_neI (j := 8) (by decide) h8
  have q9 := own_neI (j := 9) (by decide) h9
  have q10 := own_neI (j := 10) (by decide) h10
  have q11 := own_neI (j := 11) (by decide) h11
  have q12 := own_neI (j := 12) (by decide) h12
  have q13 := own_neI (j := 13) (by decide) h13
  have q14 := own_neI (j := 14) (by decide) h14
  have q15 := own_neI (j := 15) (by decide) h15
  have q16 := own_neI (j := 16) (by decide) h16
  refine Int32.toInt_inj.mp ?_
  show z.toInt = 17
  omega

def Q1 (b : Int32) (h0 : Heap) (n0 : Nat) (v : Option Value) (h : Heap) (L : List Loc) : Prop := v = some (.int b) ∧ Fr n0 L ∧ h = h0

theorem d1_0 : decode prog_45_method_5_code 0 = .ok (.aload_n 0, 1) := by decide +kernel
theorem d1_1 : decode prog_45_method_5_code 1 = .ok (.getstatic 19, 3) := by decide +kernel
theorem d1_4 : decode prog_45_method_5_code 4 = .ok (.if_acmp .eq 10, 3) := by decide +kernel
theorem d1_14 : decode prog_45_method_5_code 14 = .ok (.iconst 1, 1) := by decide +kernel
theorem d1_15 : decode prog_45_method_5_code 15 = .ok (.goto 4, 3) := by decide +kernel
theorem d1_19 : decode prog_45_method_5_code 19 = .ok (.ireturn, 1) := by decide +kernel
theorem pn_1 : plainName "com/example/open_frontier/openfrontier/frontend/Expression$BinaryOperator" = true := by first | (simp [plainName, overriddenIn]; done) | decide +kernel
theorem ef_1 (m : MethodId) (x0 : Addr) : entryFrame m #[(.ref x0)] 1 = mkF m 0 #[.val (.ref x0)] [] := by first | (simp [entryFrame, mkF, argsToLocals, Value.category]; done) | rfl
theorem d1_7 : decode prog_45_method_5_code 7 = .ok (.aload_n 0, 1) := by decide +kernel
theorem d1_8 : decode prog_45_method_5_code 8 = .ok (.getstatic 22, 3) := by decide +kernel
theorem d1_11 : decode prog_45_method_5_code 11 = .ok (.if_acmp .ne 7, 3) := by decide +kernel
theorem d1_18 : decode prog_45_method_5_code 18 = .ok (.iconst 0, 1) := by decide +kernel

set_option maxRecDepth 65536 in
set_option maxHeartbeats 40000000 in
theorem rm1_0 (l : Launch) (Z : State) (a0 : Array Value) (hw : ∀ d ∈ tables_1, d.before a0 Z = true) (ws : List Jvm.Cond) (a1 : Addr) (w2 : Addr) (h0 : Heap) (n0 : Nat) (Z0 : n0 ≤ h0.size) (S_SHIFT_LEFT : Sta Z h0 "com/example/open_frontier/openfrontier/frontend/Expression$BinaryOperator" "SHIFT_LEFT" "Lcom/example/open_frontier/openfrontier/frontend/Expression$BinaryOperator;" (.ref w2)) (ha4 : a1 = w2) :
    MetFree l (⟨"com/example/open_frontier/openfrontier/frontend/Expression$BinaryOperator", "isShift", "()Z"⟩ : MethodName) (head1 (Jvm.Cond.code (⟨"com/example/open_frontier/openfrontier/frontend/Expression$BinaryOperator", "isShift", "()Z"⟩ : MethodName) prog_45_method_5_code 1 (some .boolean) :: ws) ({ frames := 0, cells := 0, slots := 0, locals := 0 } : Room)) (fun a U => a = #[(.ref a1)] ∧ Z.Warmed39 U.vm ∧ U.heap = h0) (fun _ _ _ _ _ => True) (fun _ U o U' => ∃ v L, o = .returned v ∧ Q1 (1 : Int32) h0 n0 v U'.heap L ∧ FrameEnd U o U' L ({ frames := 0, cells := 0, slots := 0, locals := 0 } : Room).cells ({ frames := 0, cells := 0, slots := 0, locals := 0 } : Room).slots) := by
  refine MetFree.of_bodySF (plainFor_of_name pn_1) hisR ?_
  intro p e s m args below meth c s₁ Bd hml0 hP hK
  obtain ⟨rfl, hZ, hh⟩ := hP
  have hx := Bd.exec
  have hby := Bd.bytes
  have hml : c.maxLocals = 1 := hml0
  have hown : s.vm.findClass "com/example/open_frontier/openfrontier/frontend/Expression$BinaryOperator" = some m.cls := findClass_of_methodNamed Bd.named
  have hnm := (name_of_methodNamed Bd.named Bd.method).1
  have X0 : Stand p l e ({ frames := 0, cells := 0, slots := 0, locals := 0 } : Room) s m #[(.ref a1)] below meth c s₁ [] 0 0 := Stand.of_body Bd
  have e0 : s₁.heap = h0 := by rw [← hh, Bd.state]; rfl
  have N0 := Fr.nil n0
  have pre0 : ∀ t, Steps p.tables e below (s₁.setTop (mkF m 0 #[.val (.ref a1)] [])) t → Steps p.tables e below (s₁.setTop (entryFrame m #[(.ref a1)] 1)) t := fun t k => castTop (ef_1 m a1) k
  obtain ⟨T3, X3, e3, st3⟩ := getS2 X0 hx hZ hown (host := "") (Or.inl (hw _ (List.mem_of_getElem? (i := 46) rfl))) Via.refl e0 S_SHIFT_LEFT (g := (mkF m 1 #[.val (.ref a1)] [(.ref a1)])) rfl (hb hby d1_1)
  obtain ⟨fs, hr, hrun, hended, hW, hsame⟩ := X3.leave (v := some (.int (1 : Int32))) (fun h => by rw [Bd.returns] at h; cases h)
  refine ⟨_, _, pre0 _ ?_, hrun, hended, _, _, rfl, ?_, ⟨_, rfl⟩, hW, hsame.mono (by decide) (by decide)⟩
  · show Steps p.tables e below (s₁.setTop (mkF m 0 #[.val (.ref a1)] [])) _
    refine XS.aloadN X0.here hx rfl (hb hby d1_0) rfl rfl ?_
    show Steps p.tables e below (s₁.setTop (mkF m 1 #[.val (.ref a1)] [(.ref a1)])) _
    refine st3 _ ?_
    show Steps p.tables e below (T3.setTop (mkF m 4 #[.val (.ref a1)] [(.ref w2), (.ref a1)])) _
    refine Jvm.RoadKit.acmp (g := (mkF m 4 #[.val (.ref a1)] [(.ref w2), (.ref a1)])) X3 hx rfl rfl rfl (pc0 := 4) (pc' := 14) (same := true) rfl (hb hby d1_4) rfl (decide_eq_true (congrArg Value.ref ha4)) (by decide) (by decide) ?_
    show Steps p.tables e below (T3.setTop (mkF m 14 #[.val (.ref a1)] [])) _
    refine XS.iconst X3.here hx rfl (hb hby d1_14) ?_
    show Steps p.tables e below (T3.setTop (mkF m 15 #[.val (.ref a1)] [(.int (1 : Int32))])) _
    refine XS.goto X3.here hx rfl (pc0 := 15) (pc' := 19) rfl (hb hby d1_15) (by decide) (by decide) ?_
    show Steps p.tables e below (T3.setTop (mkF m 19 #[.val (.ref a1)] [(.int (1 : Int32))])) _
    exact retN X3 hx (t := .boolean) Bd.returns (by simp) (hb hby d1_19) hr
  · show Q1 (1 : Int32) h0 n0 _ T3.heap _
    rw [e3]
    exact ⟨rfl, N0, rfl⟩


set_option maxRecDepth 65536 in
set_option maxHeartbeats 40000000 in
theorem rm1_1 (l : Launch) (Z : State) (a0 : Array Value) (hw : ∀ d ∈ tables_1, d.before a0 Z = true) (ws : List Jvm.Cond) (a1 : Addr) (w2 : Addr) (w4 : Addr) (h0 : Heap) (n0 : Nat) (Z0 : n0 ≤ h0.size) (S_SHIFT_LEFT : Sta Z h0 "com/example/open_frontier/openfrontier/frontend/Expression$BinaryOperator" "SHIFT_LEFT" "Lcom/example/open_frontier/openfrontier/frontend/Expression$BinaryOperator;" (.ref w2)) (S_SHIFT_RIGHT : Sta Z h0 "com/example/open_frontier/openfrontier/frontend/Expression$BinaryOperator" "SHIFT_RIGHT" "Lcom/example/open_frontier/openfrontier/frontend/Expression$BinaryOperator;" (.ref w4)) (ha4 : ¬ (a1 = w2)) (ha11 : a1 = w4) :
    MetFree l (⟨"com/example/open_frontier/openfrontier/frontend/Expression$BinaryOperator", "isShift", "()Z"⟩ : MethodName) (head1 (Jvm.Cond.code (⟨"com/example/open_frontier/openfrontier/frontend/Expression$BinaryOperator", "isShift", "()Z"⟩ : MethodName) prog_45_method_5_code 1 (some .boolean) :: ws) ({ frames := 0, cells := 0, slots := 0, locals := 0 } : Room)) (fun a U => a = #[(.ref a1)] ∧ Z.Warmed39 U.vm ∧ U.heap = h0) (fun _ _ _ _ _ => True) (fun _ U o U' => ∃ v L, o = .returned v ∧ Q1 (1 : Int32) h0 n0 v U'.heap L ∧ FrameEnd U o U' L ({ frames := 0, cells := 0, slots := 0, locals := 0 } : Room).cells ({ frames := 0, cells := 0, slots := 0, locals := 0 } : Room).slots) := by
  refine MetFree.of_bodySF (plainFor_of_name pn_1) hisR ?_
  intro p e s m args below meth c s₁ Bd hml0 hP hK
  obtain ⟨rfl, hZ, hh⟩ := hP
  have hx := Bd.exec
  have hby := Bd.bytes
  have hml : c.maxLocals = 1 := hml0
  have hown : s.vm.findClass "com/example/open_frontier/openfrontier/frontend/Expression$BinaryOperator" = some m.cls := findClass_of_methodNamed Bd.named
  have hnm := (name_of_methodNamed Bd.named Bd.method).1
  have X0 : Stand p l e ({ frames := 0, cells := 0, slots := 0, locals := 0 } : Room) s m #[(.ref a1)] below meth c s₁ [] 0 0 := Stand.of_body Bd
  have e0 : s₁.heap = h0 := by rw [← hh, Bd.state]; rfl
  have N0 := Fr.nil n0
  have pre0 : ∀ t, Steps p.tables e below (s₁.setTop (mkF m 0 #[.val (.ref a1)] [])) t → Steps p.tables e below (s₁.setTop (entryFrame m #[(.ref a1)] 1)) t := fun t k => castTop (ef_1 m a1) k
  obtain ⟨T3, X3, e3, st3⟩ := getS2 X0 hx hZ hown (host := "") (Or.inl (hw _ (List.mem_of_getElem? (i := 46) rfl))) Via.refl e0 S_SHIFT_LEFT (g := (mkF m 1 #[.val (.ref a1)] [(.ref a1)])) rfl (hb hby d1_1)
  obtain ⟨T5, X5, e5, st5⟩ := getS2 X3 hx hZ hown (host := "") (Or.inl (hw _ (List.mem_of_getElem? (i := 47) rfl))) Via.refl e3 S_SHIFT_RIGHT (g := (mkF m 8 #[.val (.ref a1)] [(.ref a1)])) rfl (hb hby d1_8)
  obtain ⟨fs, hr, hrun, hended, hW, hsame⟩ := X5.leave (v := some (.int (1 : Int32))) (fun h => by rw [Bd.returns] at h; cases h)
  refine ⟨_, _, pre0 _ ?_, hrun, hended, _, _, rfl, ?_, ⟨_, rfl⟩, hW, hsame.mono (by decide) (by decide)⟩
  · show Steps p.tables e below (s₁.setTop (mkF m 0 #[.val (.ref a1)] [])) _
    refine XS.aloadN X0.here hx rfl (hb hby d1_0) rfl rfl ?_
    show Steps p.tables e below (s₁.setTop (mkF m 1 #[.val (.ref a1)] [(.ref a1)])) _
    refine st3 _ ?_
    show Steps p.tables e below (T3.setTop (mkF m 4 #[.val (.ref a1)] [(.ref w2), (.ref a1)])) _
    refine Jvm.RoadKit.acmp (g := (mkF m 4 #[.val (.ref a1)] [(.ref w2), (.ref a1)])) X3 hx rfl rfl rfl (pc0 := 4) (pc' := 7) (same := false) rfl (hb hby d1_4) rfl (decide_eq_false fun q => ha4 (Value.ref.inj q)) (by decide) (by decide) ?_
    show Steps p.tables e below (T3.setTop (mkF m 7 #[.val (.ref a1)] [])) _
    refine XS.aloadN X3.here hx rfl (hb hby d1_7) rfl rfl ?_
    show Steps p.tables e below (T3.setTop (mkF m 8 #[.val (.ref a1)] [(.ref a1)])) _
    refine st5 _ ?_
    show Steps p.tables e below (T5.setTop (mkF m 11 #[.val (.ref a1)] [(.ref w4), (.ref a1)])) _
    refine Jvm.RoadKit.acmp (g := (mkF m 11 #[.val (.ref a1)] [(.ref w4), (.ref a1)])) X5 hx rfl rfl rfl (pc0 := 11) (pc' := 14) (same := true) rfl (hb hby d1_11) rfl (decide_eq_true (congrArg Value.ref ha11)) (by decide) (by decide) ?_
    show Steps p.tables e below (T5.setTop (mkF m 14 #[.val (.ref a1)] [])) _
    refine XS.iconst X5.here hx rfl (hb hby d1_14) ?_
    show Steps p.tables e below (T5.setTop (mkF m 15 #[.val (.ref a1)] [(.int (1 : Int32))])) _
    refine XS.goto X5.here hx rfl (pc0 := 15) (pc' := 19) rfl (hb hby d1_15) (by decide) (by decide) ?_
    show Steps p.tables e below (T5.setTop (mkF m 19 #[.val (.ref a1)] [(.int (1 : Int32))])) _
    exact retN X5 hx (t := .boolean) Bd.returns (by simp) (hb hby d1_19) hr
  · show Q1 (1 : Int32) h0 n0 _ T5.heap _
    rw [e5]
    exact ⟨rfl, N0, rfl⟩


set_option maxRecDepth 65536 in
set_option maxHeartbeats 40000000 in
theorem rm1_2 (l : Launch) (Z : State) (a0 : Array Value) (hw : ∀ d ∈ tables_1, d.before a0 Z = true) (ws : List Jvm.Cond) (a1 : Addr) (w2 : Addr) (w4 : Addr) (h0 : Heap) (n0 : Nat) (Z0 : n0 ≤ h0.size) (S_SHIFT_LEFT : Sta Z h0 "com/example/open_frontier/openfrontier/frontend/Expression$BinaryOperator" "SHIFT_LEFT" "Lcom/example/open_frontier/openfrontier/frontend/Expression$BinaryOperator;" (.ref w2)) (S_SHIFT_RIGHT : Sta Z h0 "com/example/open_frontier/openfrontier/frontend/Expression$BinaryOperator" "SHIFT_RIGHT" "Lcom/example/open_frontier/openfrontier/frontend/Expression$BinaryOperator;" (.ref w4)) (ha4 : ¬ (a1 = w2)) (ha11 : ¬ (a1 = w4)) :
    MetFree l (⟨"com/example/open_frontier/openfrontier/frontend/Expression$BinaryOperator", "isShift", "()Z"⟩ : MethodName) (head1 (Jvm.Cond.code (⟨"com/example/open_frontier/openfrontier/frontend/Expression$BinaryOperator", "isShift", "()Z"⟩ : MethodName) prog_45_method_5_code 1 (some .boolean) :: ws) ({ frames := 0, cells := 0, slots := 0, locals := 0 } : Room)) (fun a U => a = #[(.ref a1)] ∧ Z.Warmed39 U.vm ∧ U.heap = h0) (fun _ _ _ _ _ => True) (fun _ U o U' => ∃ v L, o = .returned v ∧ Q1 (0 : Int32) h0 n0 v U'.heap L ∧ FrameEnd U o U' L ({ frames := 0, cells := 0, slots := 0, locals := 0 } : Room).cells ({ frames := 0, cells := 0, slots := 0, locals := 0 } : Room).slots) := by
  refine MetFree.of_bodySF (plainFor_of_name pn_1) hisR ?_
  intro p e s m args below meth c s₁ Bd hml0 hP hK
  obtain ⟨rfl, hZ, hh⟩ := hP
  have hx := Bd.exec
  have hby := Bd.bytes
  have hml : c.maxLocals = 1 := hml0
  have hown : s.vm.findClass "com/example/open_frontier/openfrontier/frontend/Expression$BinaryOperator" = some m.cls := findClass_of_methodNamed Bd.named
  have hnm := (name_of_methodNamed Bd.named Bd.method).1
  have X0 : Stand p l e ({ frames := 0, cells := 0, slots := 0, locals := 0 } : Room) s m #[(.ref a1)] below meth c s₁ [] 0 0 := Stand.of_body Bd
  have e0 : s₁.heap = h0 := by rw [← hh, Bd.state]; rfl
  have N0 := Fr.nil n0
  have pre0 : ∀ t, Steps p.tables e below (s₁.setTop (mkF m 0 #[.val (.ref a1)] [])) t → Steps p.tables e below (s₁.setTop (entryFrame m #[(.ref a1)] 1)) t := fun t k => castTop (ef_1 m a1) k
  obtain ⟨T3, X3, e3, st3⟩ := getS2 X0 hx hZ hown (host := "") (Or.inl (hw _ (List.mem_of_getElem? (i := 46) rfl))) Via.refl e0 S_SHIFT_LEFT (g := (mkF m 1 #[.val (.ref a1)] [(.ref a1)])) rfl (hb hby d1_1)
  obtain ⟨T5, X5, e5, st5⟩ := getS2 X3 hx hZ hown (host := "") (Or.inl (hw _ (List.mem_of_getElem? (i := 47) rfl))) Via.refl e3 S_SHIFT_RIGHT (g := (mkF m 8 #[.val (.ref a1)] [(.ref a1)])) rfl (hb hby d1_8)
  obtain ⟨fs, hr, hrun, hended, hW, hsame⟩ := X5.leave (v := some (.int (0 : Int32))) (fun h => by rw [Bd.returns] at h; cases h)
  refine ⟨_, _, pre0 _ ?_, hrun, hended, _, _, rfl, ?_, ⟨_, rfl⟩, hW, hsame.mono (by decide) (by decide)⟩
  · show Steps p.tables e below (s₁.setTop (mkF m 0 #[.val (.ref a1)] [])) _
    refine XS.aloadN X0.here hx rfl (hb hby d1_0) rfl rfl ?_
    show Steps p.tables e below (s₁.setTop (mkF m 1 #[.val (.ref a1)] [(.ref a1)])) _
    refine st3 _ ?_
    show Steps p.tables e below (T3.setTop (mkF m 4 #[.val (.ref a1)] [(.ref w2), (.ref a1)])) _
    refine Jvm.RoadKit.acmp (g := (mkF m 4 #[.val (.ref a1)] [(.ref w2), (.ref a1)])) X3 hx rfl rfl rfl (pc0 := 4) (pc' := 7) (same := false) rfl (hb hby d1_4) rfl (decide_eq_false fun q => ha4 (Value.ref.inj q)) (by decide) (by decide) ?_
    show Steps p.tables e below (T3.setTop (mkF m 7 #[.val (.ref a1)] [])) _
    refine XS.aloadN X3.here hx rfl (hb hby d1_7) rfl rfl ?_
    show Steps p.tables e below (T3.setTop (mkF m 8 #[.val (.ref a1)] [(.ref a1)])) _
    refine st5 _ ?_
    show Steps p.tables e below (T5.setTop (mkF m 11 #[.val (.ref a1)] [(.ref w4), (.ref a1)])) _
    refine Jvm.RoadKit.acmp (g := (mkF m 11 #[.val (.ref a1)] [(.ref w4), (.ref a1)])) X5 hx rfl rfl rfl (pc0 := 11) (pc' := 18) (same := false) rfl (hb hby d1_11) rfl (decide_eq_false fun q => ha11 (Value.ref.inj q)) (by decide) (by decide) ?_
    show Steps p.tables e below (T5.setTop (mkF m 18 #[.val (.ref a1)] [])) _
    refine XS.iconst X5.here hx rfl (hb hby d1_18) ?_
    show Steps p.tables e below (T5.setTop (mkF m 19 #[.val (.ref a1)] [(.int (0 : Int32))])) _
    exact retN X5 hx (t := .boolean) Bd.returns (by simp) (hb hby d1_19) hr
  · show Q1 (0 : Int32) h0 n0 _ T5.heap _
    rw [e5]
    exact ⟨rfl, N0, rfl⟩


theorem rm1 (l : Launch) (Z : State) (a0 : Array Value) (hw : ∀ d ∈ tables_1, d.before a0 Z = true) (ws : List Jvm.Cond) (a1 uL uR : Addr) (h0 : Heap) (n0 : Nat) (Z0 : n0 ≤ h0.size) (S_SHIFT_LEFT : Sta Z h0 "com/example/open_frontier/openfrontier/frontend/Expression$BinaryOperator" "SHIFT_LEFT" "Lcom/example/open_frontier/openfrontier/frontend/Expression$BinaryOperator;" (.ref uL)) (S_SHIFT_RIGHT : Sta Z h0 "com/example/open_frontier/openfrontier/frontend/Expression$BinaryOperator" "SHIFT_RIGHT" "Lcom/example/open_frontier/openfrontier/frontend/Expression$BinaryOperator;" (.ref uR)) (b : Int32) (hb : ((b = 1 ∧ (a1 = uL ∨ a1 = uR)) ∨ (b = 0 ∧ ¬ a1 = uL ∧ ¬ a1 = uR))) :
    MetFree l (⟨"com/example/open_frontier/openfrontier/frontend/Expression$BinaryOperator", "isShift", "()Z"⟩ : MethodName) (head1 (Jvm.Cond.code (⟨"com/example/open_frontier/openfrontier/frontend/Expression$BinaryOperator", "isShift", "()Z"⟩ : MethodName) prog_45_method_5_code 1 (some .boolean) :: ws) ({ frames := 0, cells := 0, slots := 0, locals := 0 } : Room)) (fun a U => a = #[(.ref a1)] ∧ Z.Warmed39 U.vm ∧ U.heap = h0) (fun _ _ _ _ _ => True) (fun _ U o U' => ∃ v L, o = .returned v ∧ Q1 b h0 n0 v U'.heap L ∧ FrameEnd U o U' L ({ frames := 0, cells := 0, slots := 0, locals := 0 } : Room).cells ({ frames := 0, cells := 0, slots := 0, locals := 0 } : Room).slots) := by
  by_cases h1 : a1 = uL
  · rcases hb with ⟨rfl, -⟩ | ⟨-, q, -⟩
    · exact rm1_0 l Z a0 hw ws a1 uL h0 n0 Z0 S_SHIFT_LEFT h1
    · exact absurd h1 q
  by_cases h2 : a1 = uR
  · rcases hb with ⟨rfl, -⟩ | ⟨-, -, q⟩
    · exact rm1_1 l Z a0 hw ws a1 uL uR h0 n0 Z0 S_SHIFT_LEFT S_SHIFT_RIGHT h1 h2
    · exact absurd h2 q
  · rcases hb with ⟨-, q⟩ | ⟨rfl, -⟩
    · rcases q with q | q
      · exact absurd q h1
      · exact absurd q h2
    · exact rm1_2 l Z a0 hw ws a1 uL uR h0 n0 Z0 S_SHIFT_LEFT S_SHIFT_RIGHT h1 h2

def Q0 (n0 : Nat) (v : Option Value) (h : Heap) (L : List Loc) : Prop := v = some (.int (1 : Int32)) ∧ Fr n0 L

theorem pn_0 : plainName "com/example/open_frontier/openfrontier/frontend/BinaryOperatorIsShiftPinLaw" = true := by first | (simp [plainName, overriddenIn]; done) | decide +kernel
theorem pd_0_0 : parseMethodDescriptor "()Z" = some ⟨[], some .boolean⟩ := by decide +kernel
theorem ef_0 (m : MethodId) (x0 : Int32) : entryFrame m #[(.int x0)] maxLocals = mkF m 0 #[.val (.int x0), .unset, .unset, .unset] [] := by first | (simp [entryFrame, mkF, argsToLocals, Value.category, maxLocals]; done) | rfl

set_option maxRecDepth 65536 in
set_option maxHeartbeats 40000000 in
theorem rm0_0 (l : Launch) (Z : State) (a0 : Array Value) (hw : ∀ d ∈ tables_1, d.before a0 Z = true) (ws : List Jvm.Cond) (p1 : Int32) (w3 : Addr) (w6 : Addr) (w9 : Addr) (w12 : Addr) (w15 : Addr) (w18 : Addr) (w21 : Addr) (w24 : Addr) (w27 : Addr) (w30 : Addr) (w33 : Addr) (w36 : Addr) (w39 : Addr) (w42 : Addr) (w45 : Addr) (w48 : Addr) (w51 : Addr) (w54 : Addr) (w57 : Addr) (h0 : Heap) (n0 : Nat) (Z0 : n0 ≤ h0.size) (S_MULTIPLY : Sta Z h0 "com/example/open_frontier/openfrontier/frontend/Expression$BinaryOperator" "MULTIPLY" "Lcom/example/open_frontier/openfrontier/frontend/Expression$BinaryOperator;" (.ref w3)) (E_w3 : Exa Z h0 w3 "com/example/open_frontier/openfrontier/frontend/Expression$BinaryOperator") (S_DIVIDE : Sta Z h0 "com/example/open_frontier/openfrontier/frontend/Expression$BinaryOperator" "DIVIDE" "Lcom/example/open_frontier/openfrontier/frontend/Expression$BinaryOperator;" (.ref w6)) (E_w6 : Exa Z h0 w6 "com/example/open_frontier/openfrontier/frontend/Expression$BinaryOperator") (S_REMAINDER : Sta Z h0 "com/example/open_frontier/openfrontier/frontend/Expression$BinaryOperator" "REMAINDER" "Lcom/example/open_frontier/openfrontier/frontend/Expression$BinaryOperator;" (.ref w9)) (E_w9 : Exa Z h0 w9 "com/example/open_frontier/openfrontier/frontend/Expression$BinaryOperator") (S_ADD : Sta Z h0 "com/example/open_frontier/openfrontier/frontend/Expression$BinaryOperator" "ADD" "Lcom/example/open_frontier/openfrontier/frontend/Expression$BinaryOperator;" (.ref w12)) (E_w12 : Exa Z h0 w12 "com/example/open_frontier/openfrontier/frontend/Expression$BinaryOperator") (S_SUBTRACT : Sta Z h0 "com/example/open_frontier/openfrontier/frontend/Expression$BinaryOperator" "SUBTRACT" "Lcom/example/open_frontier/openfrontier/frontend/Expression$BinaryOperator;" (.ref w15)) (E_w15 : Exa Z h0 w15 "com/example/open_frontier/openfrontier/frontend/Expression$BinaryOperator") (S_SHIFT_LEFT : Sta Z h0 "com/example/open_frontier/openfrontier/frontend/Expression$BinaryOperator" "SHIFT_LEFT" "Lcom/example/open_frontier/openfrontier/frontend/Expression$BinaryOperator;" (.ref w18)) (E_w18 : Exa Z h0 w18 "com/example/open_frontier/openfrontier/frontend/Expression$BinaryOperator") (S_SHIFT_RIGHT : Sta Z h0 "com/example/open_frontier/openfrontier/frontend/Expression$BinaryOperator" "SHIFT_RIGHT" "Lcom/example/open_frontier/openfrontier/frontend/Expression$BinaryOperator;" (.ref w21)) (E_w21 : Exa Z h0 w21 "com/example/open_frontier/openfrontier/frontend/Expression$BinaryOperator") (S_LESS : Sta Z h0 "com/example/open_frontier/openfrontier/frontend/Expression$BinaryOperator" "LESS" "Lcom/example/open_frontier/openfrontier/frontend/Expression$BinaryOperator;" (.ref w24)) (E_w24 : Exa Z h0 w24 "com/example/open_frontier/openfrontier/frontend/Expression$BinaryOperator") (S_GREATER : Sta Z h0 "com/example/open_frontier/openfrontier/frontend/Expression$BinaryOperator" "GREATER" "Lcom/example/open_frontier/openfrontier/frontend/Expression$BinaryOperator;" (.ref w27)) (E_w27 : Exa Z h0 w27 "com/example/open_frontier/openfrontier/frontend/Expression$BinaryOperator") (S_LESS_EQUAL : Sta Z h0 "com/example/open_frontier/openfrontier/frontend/Expression$BinaryOperator" "LESS_EQUAL" "Lcom/example/open_frontier/openfrontier/frontend/Expression$BinaryOperator;" (.ref w30)) (E_w30 : Exa Z h0 w30 "com/example/open_frontier/openfrontier/frontend/Expression$BinaryOperator") (S_GREATER_EQUAL : Sta Z h0 "com/example/open_frontier/openfrontier/frontend/Expression$BinaryOperator" "GREATER_EQUAL" "Lcom/example/open_frontier/openfrontier/frontend/Expression$BinaryOperator;" (.ref w33)) (E_w33 : Exa Z h0 w33 "com/example/open_frontier/openfrontier/frontend/Expression$BinaryOperator") (S_EQUAL : Sta Z h0 "com/example/open_frontier/openfrontier/frontend/Expression$BinaryOperator" "EQUAL" "Lcom/example/open_frontier/openfrontier/frontend/Expression$BinaryOperator;" (.ref w36)) (E_w36 : Exa Z h0 w36 "com/example/open_frontier/openfrontier/frontend/Expression$BinaryOperator") (S_NOT_EQUAL : Sta Z h0 "com/example/open_frontier/openfrontier/frontend/Expression$BinaryOperator" "NOT_EQUAL" "Lcom/example/open_frontier/openfrontier/frontend/Expression$BinaryOperator;" (.ref w39)) (E_w39 : Exa Z h0 w39 "com/example/open_frontier/openfrontier/frontend/Expression$BinaryOperator") (S_BIT_AND : Sta Z h0 "com/example/open_frontier/openfrontier/frontend/Expression$BinaryOperator" "BIT_AND" "Lcom/example/open_frontier/openfrontier/frontend/Expression$BinaryOperator;" (.ref w42)) (E_w42 : Exa Z h0 w42 "com/example/open_frontier/openfrontier/frontend/Expression$BinaryOperator") (S_BIT_XOR : Sta Z h0 "com/example/open_frontier/openfrontier/frontend/Expression$BinaryOperator" "BIT_XOR" "Lcom/example/open_frontier/openfrontier/frontend/Expression$BinaryOperator;" (.ref w45)) (E_w45 : Exa Z h0 w45 "com/example/open_frontier/openfrontier/frontend/Expression$BinaryOperator") (S_BIT_OR : Sta Z h0 "com/example/open_frontier/openfrontier/frontend/Expression$BinaryOperator" "BIT_OR" "Lcom/example/open_frontier/openfrontier/frontend/Expression$BinaryOperator;" (.ref w48)) (E_w48 : Exa Z h0 w48 "com/example/open_frontier/openfrontier/frontend/Expression$BinaryOperator") (S_LOGICAL_AND : Sta Z h0 "com/example/open_frontier/openfrontier/frontend/Expression$BinaryOperator" "LOGICAL_AND" "Lcom/example/open_frontier/openfrontier/frontend/Expression$BinaryOperator;" (.ref w51)) (E_w51 : Exa Z h0 w51 "com/example/open_frontier/openfrontier/frontend/Expression$BinaryOperator") (S_LOGICAL_OR : Sta Z h0 "com/example/open_frontier/openfrontier/frontend/Expression$BinaryOperator" "LOGICAL_OR" "Lcom/example/open_frontier/openfrontier/frontend/Expression$BinaryOperator;" (.ref w54)) (E_w54 : Exa Z h0 w54 "com/example/open_frontier/openfrontier/frontend/Expression$BinaryOperator") (hinb153 : ¬ ((p1 &&& (2147483647 : Int32)) % (18 : Int32)) < 0 ∧ ((p1 &&& (2147483647 : Int32)) % (18 : Int32)) < (18 : Int32)) (hval153 : (([.ref w3, .ref w6, .ref w9, .ref w12, .ref w15, .ref w18, .ref w21, .ref w24, .ref w27, .ref w30, .ref w33, .ref w36, .ref w39, .ref w42, .ref w45, .ref w48, .ref w51, .ref w54] : List Value)).getD (((p1 &&& (2147483647 : Int32)) % (18 : Int32))).toNatClampNeg .null = (.ref w57)) (E_w57 : Exa Z h0 w57 "com/example/open_frontier/openfrontier/frontend/Expression$BinaryOperator") (hbb : (((1 : Int32) = 1 ∧ (w57 = w18 ∨ w57 = w21)) ∨ ((1 : Int32) = 0 ∧ ¬ w57 = w18 ∧ ¬ w57 = w21))) (hc136 : ((p1 &&& (2147483647 : Int32)) % (18 : Int32)) = (5 : Int32)) :
    MetFree l x (head1 (Jvm.Cond.code x code maxLocals ret :: ws) room_1) (fun a U => a = #[(.int p1)] ∧ Z.Warmed39 U.vm ∧ U.heap = h0) (fun _ _ _ _ _ => True) (fun _ U o U' => ∃ v L, o = .returned v ∧ Q0 n0 v U'.heap L ∧ FrameEnd U o U' L room_1.cells room_1.slots) := by
  refine MetFree.of_bodySF (plainFor_of_name pn_0) hisR ?_
  intro p e s m args below meth c s₁ Bd hml0 hP hK
  obtain ⟨rfl, hZ, hh⟩ := hP
  have hx := Bd.exec
  have hby := Bd.bytes
  have hml : c.maxLocals = 4 := hml0
  have hown : s.vm.findClass "com/example/open_frontier/openfrontier/frontend/BinaryOperatorIsShiftPinLaw" = some m.cls := findClass_of_methodNamed Bd.named
  have hnm := (name_of_methodNamed Bd.named Bd.method).1
  have X0 : Stand p l e room_1 s m #[(.int p1)] below meth c s₁ [] 0 0 := Stand.of_body Bd
  have e0 : s₁.heap = h0 := by rw [← hh, Bd.state]; rfl
  have N0 := Fr.nil n0
  have pre0 : ∀ t, Steps p.tables e below (s₁.setTop (mkF m 0 #[.val (.int p1), .unset, .unset, .unset] [])) t → Steps p.tables e below (s₁.setTop (entryFrame m #[(.int p1)] maxLocals)) t := fun t k => castTop (ef_0 m p1) k
  obtain ⟨T2, h2, k2, X2, e2, E2, A2, O2, st2⟩ := newR X0 hx hZ hown (hw _ (List.mem_of_getElem? (i := 0) rfl)) (hw _ (List.mem_of_getElem? (i := 1) rfl)) e0 (g := (mkF m 2 #[.val (.int p1), .unset, .unset, .unset] [(.int (18 : Int32))])) rfl (hb hby at_2) rfl (by decide) (cap := 18) (by decide) (by decide) (by decide) (by decide)
  obtain ⟨b2, g2⟩ : ∃ z, z = h0.size := ⟨_, rfl⟩      -- the fresh array's address
  rw [← g2] at A2 st2
  have V_b2 : Arv Z h2 b2 k2 (.object "com/example/open_frontier/openfrontier/frontend/Expression$BinaryOperator") (18 : Int32) [.null, .null, .null, .null, .null, .null, .null, .null, .null, .null, .null, .null, .null, .null, .null, .null, .null, .null] .null := (Arv.new A2 (by decide)).pad (pad_rep [] .null 18)
  have g_b2 : n0 ≤ b2 := Nat.le_trans Z0 (Nat.le_of_eq g2.symm)
  have sz_b2 : h0.size ≤ b2 := (Nat.le_trans (Keep.refl h0 []).1 (Nat.le_of_eq g2.symm))
  have K2 : Keep h0 h2 [] := (Keep.refl h0 []).ext E2
  obtain ⟨T4, X4, e4, st4⟩ := getS2 X2 hx hZ hown (host := "") (Or.inl (hw _ (List.mem_of_getElem? (i := 2) rfl))) Via.refl e2 (S_MULTIPLY.ext (own_ext K2)) (g := (mkF m 7 #[.val (.int p1), .unset, .unset, .unset] [(.int (0 : Int32)), (.ref b2), (.ref b2)])) rfl (hb hby at_7)
  obtain ⟨cl_b2_10, Ar_b2_10, q_b2_10, S_b2_10, N_b2_10, H_b2_10, G_b2_10⟩ := id V_b2
  have hin10 : ¬ ((0 : Int32) < 0 ∨ cl_b2_10.slots.size ≤ ((0 : Int32)).toNatClampNeg) := inb_of S_b2_10 ⟨by decide, by decide⟩
  obtain ⟨T5, h5, X5, e5, W5, st5⟩ := stR X4 hx hZ e4 Ar_b2_10 (j := (0 : Int32)) hin10 rfl (Sto.ofV Ar_b2_10 q_b2_10 O2 (Ins.self (E_w3.ext (own_ext K2)))) (g := (mkF m 10 #[.val (.int p1), .unset, .unset, .unset] [(.ref w3), (.int (0 : Int32)), (.ref b2), (.ref b2)])) rfl rfl (hb hby at_10)
  have V_b2_5 : Arv Z h5 b2 k2 (.object "com/example/open_frontier/openfrontier/frontend/Expression$BinaryOperator") (18 : Int32) [(.ref w3), .null, .null, .null, .null, .null, .null, .null, .null, .null, .null, .null, .null, .null, .null, .null, .null, .null] .null := Arv.set Ar_b2_10 q_b2_10 S_b2_10 N_b2_10 H_b2_10 G_b2_10 rfl W5 0 rfl (Nat.le_of_ble_eq_true rfl)
  have K5 : Keep h0 h5 [] := K2.wr W5 (Or.inr sz_b2)
  have N5 := Fr.snoc X5 N0 g_b2
  obtain ⟨T7, X7, e7, st7⟩ := getS2 X5 hx hZ hown (host := "") (Or.inl (hw _ (List.mem_of_getElem? (i := 6) rfl))) Via.refl e5 (S_DIVIDE.ext (own_ext K5)) (g := (mkF m 13 #[.val (.int p1), .unset, .unset, .unset] [(.int (1 : Int32)), (.ref b2), (.ref b2)])) rfl (hb hby at_13)
  obtain ⟨cl_b2_16, Ar_b2_16, q_b2_16, S_b2_16, N_b2_16, H_b2_16, G_b2_16⟩ := id V_b2_5
  have hin16 : ¬ ((1 : Int32) < 0 ∨ cl_b2_16.slots.size ≤ ((1 : Int32)).toNatClampNeg) := inb_of S_b2_16 ⟨by decide, by decide⟩
  obtain ⟨T8, h8, X8, e8, W8, st8⟩ := stR X7 hx hZ e7 Ar_b2_16 (j := (1 : Int32)) hin16 rfl (Sto.ofV Ar_b2_16 q_b2_16 O2 (Ins.self (E_w6.ext (own_ext K5)))) (g := (mkF m 16 #[.val (.int p1), .unset, .unset, .unset] [(.ref w6), (.int (1 : Int32)), (.ref b2), (.ref b2)])) rfl rfl (hb hby at_16)
  have V_b2_8 : Arv Z h8 b2 k2 (.object "com/example/open_frontier/openfrontier/frontend/Expression$BinaryOperator") (18 : Int32) [(.ref w3), (.ref w6), .null, .null, .null, .null, .null, .null, .null, .null, .null, .null, .null, .null, .null, .null, .null, .null] .null := Arv.set Ar_b2_16 q_b2_16 S_b2_16 N_b2_16 H_b2_16 G_b2_16 rfl W8 1 rfl (Nat.le_of_ble_eq_true rfl)
  have K8 : Keep h0 h8 [] := K5.wr W8 (Or.inr sz_b2)
  have N8 := Fr.snoc X8 N5 g_b2
  obtain ⟨T10, X10, e10, st10⟩ := getS2 X8 hx hZ hown (host := "") (Or.inl (hw _ (List.mem_of_getElem? (i := 8) rfl))) Via.refl e8 (S_REMAINDER.ext (own_ext K8)) (g := (mkF m 19 #[.val (.int p1), .unset, .unset, .unset] [(.int (2 : Int32)), (.ref b2), (.ref b2)])) rfl (hb hby at_19)
  obtain ⟨cl_b2_22, Ar_b2_22, q_b2_22, S_b2_22, N_b2_22, H_b2_22, G_b2_22⟩ := id V_b2_8
  have hin22 : ¬ ((2 : Int32) < 0 ∨ cl_b2_22.slots.size ≤ ((2 : Int32)).toNatClampNeg) := inb_of S_b2_22 ⟨by decide, by decide⟩
  obtain ⟨T11, h11, X11, e11, W11, st11⟩ := stR X10 hx hZ e10 Ar_b2_22 (j := (2 : Int32)) hin22 rfl (Sto.ofV Ar_b2_22 q_b2_22 O2 (Ins.self (E_w9.ext (own_ext K8)))) (g := (mkF m 22 #[.val (.int p1), .unset, .unset, .unset] [(.ref w9), (.int (2 : Int32)), (.ref b2), (.ref b2)])) rfl rfl (hb hby at_22)
  have V_b2_11 : Arv Z h11 b2 k2 (.object "com/example/open_frontier/openfrontier/frontend/Expression$BinaryOperator") (18 : Int32) [(.ref w3), (.ref w6), (.ref w9), .null, .null, .null, .null, .null, .null, .null, .null, .null, .null, .null, .null, .null, .null, .null] .null := Arv.set Ar_b2_22 q_b2_22 S_b2_22 N_b2_22 H_b2_22 G_b2_22 rfl W11 2 rfl (Nat.le_of_ble_eq_true rfl)
  have K11 : Keep h0 h11 [] := K8.wr W11 (Or.inr sz_b2)
  have N11 := Fr.snoc X11 N8 g_b2
  obtain ⟨T13, X13, e13, st13⟩ := getS2 X11 hx hZ hown (host := "") (Or.inl (hw _ (List.mem_of_getElem? (i := 10) rfl))) Via.refl e11 (S_ADD.ext (own_ext K11)) (g := (mkF m 25 #[.val (.int p1), .unset, .unset, .unset] [(.int (3 : Int32)), (.ref b2), (.ref b2)])) rfl (hb hby at_25)
  obtain ⟨cl_b2_28, Ar_b2_28, q_b2_28, S_b2_28, N_b2_28, H_b2_28, G_b2_28⟩ := id V_b2_11
  have hin28 : ¬ ((3 : Int32) < 0 ∨ cl_b2_28.slots.size ≤ ((3 : Int32)).toNatClampNeg) := inb_of S_b2_28 ⟨by decide, by decide⟩
  obtain ⟨T14, h14, X14, e14, W14, st14⟩ := stR X13 hx hZ e13 Ar_b2_28 (j := (3 : Int32)) hin28 rfl (Sto.ofV Ar_b2_28 q_b2_28 O2 (Ins.self (E_w12.ext (own_ext K11)))) (g := (mkF m 28 #[.val (.int p1), .unset, .unset, .unset] [(.ref w12), (.int (3 : Int32)), (.ref b2), (.ref b2)])) rfl rfl (hb hby at_28)
  have V_b2_14 : Arv Z h14 b2 k2 (.object "com/example/open_frontier/openfrontier/frontend/Expression$BinaryOperator") (18 : Int32) [(.ref w3), (.ref w6), (.ref w9), (.ref w12), .null, .null, .null, .null, .null, .null, .null, .null, .null, .null, .null, .null, .null, .null] .null := Arv.set Ar_b2_28 q_b2_28 S_b2_28 N_b2_28 H_b2_28 G_b2_28 rfl W14 3 rfl (Nat.le_of_ble_eq_true rfl)
  have K14 : Keep h0 h14 [] := K11.wr W14 (Or.inr sz_b2)
  have N14 := Fr.snoc X14 N11 g_b2
  obtain ⟨T16, X16, e16, st16⟩ := getS2 X14 hx hZ hown (host := "") (Or.inl (hw _ (List.mem_of_getElem? (i := 12) rfl))) Via.refl e14 (S_SUBTRACT.ext (own_ext K14)) (g := (mkF m 31 #[.val (.int p1), .unset, .unset, .unset] [(.int (4 : Int32)), (.ref b2), (.ref b2)])) rfl (hb hby at_31)
  obtain ⟨cl_b2_34, Ar_b2_34, q_b2_34, S_b2_34, N_b2_34, H_b2_34, G_b2_34⟩ := id V_b2_14
  have hin34 : ¬ ((4 : Int32) < 0 ∨ cl_b2_34.slots.size ≤ ((4 : Int32)).toNatClampNeg) := inb_of S_b2_34 ⟨by decide, by decide⟩
  obtain ⟨T17, h17, X17, e17, W17, st17⟩ := stR X16 hx hZ e16 Ar_b2_34 (j := (4 : Int32)) hin34 rfl (Sto.ofV Ar_b2_34 q_b2_34 O2 (Ins.self (E_w15.ext (own_ext K14)))) (g := (mkF m 34 #[.val (.int p1), .unset, .unset, .unset] [(.ref w15), (.int (4 : Int32)), (.ref b2), (.ref b2)])) rfl rfl (hb hby at_34)
  have V_b2_17 : Arv Z h17 b2 k2 (.object "com/example/open_frontier/openfrontier/frontend/Expression$BinaryOperator") (18 : Int32) [(.ref w3), (.ref w6), (.ref w9), (.ref w12), (.ref w15), .null, .null, .null, .null, .null, .null, .null, .null, .null, .null, .null, .null, .null] .null := Arv.set Ar_b2_34 q_b2_34 S_b2_34 N_b2_34 H_b2_34 G_b2_34 rfl W17 4 rfl (Nat.le_of_ble_eq_true rfl)
  have K17 : Keep h0 h17 [] := K14.wr W17 (Or.inr sz_b2)
  have N17 := Fr.snoc X17 N14 g_b2
  obtain ⟨T19, X19, e19, st19⟩ := getS2 X17 hx hZ hown (host := "") (Or.inl (hw _ (List.mem_of_getElem? (i := 14) rfl))) Via.refl e17 (S_SHIFT_LEFT.ext (own_ext K17)) (g := (mkF m 37 #[.val (.int p1), .unset, .unset, .unset] [(.int (5 : Int32)), (.ref b2), (.ref b2)])) rfl (hb hby at_37)
  obtain ⟨cl_b2_40, Ar_b2_40, q_b2_40, S_b2_40, N_b2_40, H_b2_40, G_b2_40⟩ := id V_b2_17
  have hin40 : ¬ ((5 : Int32) < 0 ∨ cl_b2_40.slots.size ≤ ((5 : Int32)).toNatClampNeg) := inb_of S_b2_40 ⟨by decide, by decide⟩
  obtain ⟨T20, h20, X20, e20, W20, st20⟩ := stR X19 hx hZ e19 Ar_b2_40 (j := (5 : Int32)) hin40 rfl (Sto.ofV Ar_b2_40 q_b2_40 O2 (Ins.self (E_w18.ext (own_ext K17)))) (g := (mkF m 40 #[.val (.int p1), .unset, .unset, .unset] [(.ref w18), (.int (5 : Int32)), (.ref b2), (.ref b2)])) rfl rfl (hb hby at_40)
  have V_b2_20 : Arv Z h20 b2 k2 (.object "com/example/open_frontier/openfrontier/frontend/Expression$BinaryOperator") (18 : Int32) [(.ref w3), (.ref w6), (.ref w9), (.ref w12), (.ref w15), (.ref w18), .null, .null, .null, .null, .null, .null, .null, .null, .null, .null, .null, .null] .null := Arv.set Ar_b2_40 q_b2_40 S_b2_40 N_b2_40 H_b2_40 G_b2_40 rfl W20 5 rfl (Nat.le_of_ble_eq_true rfl)
  have K20 : Keep h0 h20 [] := K17.wr W20 (Or.inr sz_b2)
  have N20 := Fr.snoc X20 N17 g_b2
  obtain ⟨T22, X22, e22, st22⟩ := getS2 X20 hx hZ hown (host := "") (Or.inl (hw _ (List.mem_of_getElem? (i := 16) rfl))) Via.refl e20 (S_SHIFT_RIGHT.ext (own_ext K20)) (g := (mkF m 44 #[.val (.int p1), .unset, .unset, .unset] [(.int (6 : Int32)), (.ref b2), (.ref b2)])) rfl (hb hby at_44)
  obtain ⟨cl_b2_47, Ar_b2_47, q_b2_47, S_b2_47, N_b2_47, H_b2_47, G_b2_47⟩ := id V_b2_20
  have hin47 : ¬ ((6 : Int32) < 0 ∨ cl_b2_47.slots.size ≤ ((6 : Int32)).toNatClampNeg) := inb_of S_b2_47 ⟨by decide, by decide⟩
  obtain ⟨T23, h23, X23, e23, W23, st23⟩ := stR X22 hx hZ e22 Ar_b2_47 (j := (6 : Int32)) hin47 rfl (Sto.ofV Ar_b2_47 q_b2_47 O2 (Ins.self (E_w21.ext (own_ext K20)))) (g := (mkF m 47 #[.val (.int p1), .unset, .unset, .unset] [(.ref w21), (.int (6 : Int32)), (.ref b2), (.ref b2)])) rfl rfl (hb hby at_47)
  have V_b2_23 : Arv Z h23 b2 k2 (.object "com/example/open_frontier/openfrontier/frontend/Expression$BinaryOperator") (18 : Int32) [(.ref w3), (.ref w6), (.ref w9), (.ref w12), (.ref w15), (.ref w18), (.ref w21), .null, .null, .null, .null, .null, .null, .null, .null, .null, .null, .null] .null := Arv.set Ar_b2_47 q_b2_47 S_b2_47 N_b2_47 H_b2_47 G_b2_47 rfl W23 6 rfl (Nat.le_of_ble_eq_true rfl)
  have K23 : Keep h0 h23 [] := K20.wr W23 (Or.inr sz_b2)
  have N23 := Fr.snoc X23 N20 g_b2
  obtain ⟨T25, X25, e25, st25⟩ := getS2 X23 hx hZ hown (host := "") (Or.inl (hw _ (List.mem_of_getElem? (i := 18) rfl))) Via.refl e23 (S_LESS.ext (own_ext K23)) (g := (mkF m 51 #[.val (.int p1), .unset, .unset, .unset] [(.int (7 : Int32)), (.ref b2), (.ref b2)])) rfl (hb hby at_51)
  obtain ⟨cl_b2_54, Ar_b2_54, q_b2_54, S_b2_54, N_b2_54, H_b2_54, G_b2_54⟩ := id V_b2_23
  have hin54 : ¬ ((7 : Int32) < 0 ∨ cl_b2_54.slots.size ≤ ((7 : Int32)).toNatClampNeg) := inb_of S_b2_54 ⟨by decide, by decide⟩
  obtain ⟨T26, h26, X26, e26, W26, st26⟩ := stR X25 hx hZ e25 Ar_b2_54 (j := (7 : Int32)) hin54 rfl (Sto.ofV Ar_b2_54 q_b2_54 O2 (Ins.self (E_w24.ext (own_ext K23)))) (g := (mkF m 54 #[.val (.int p1), .unset, .unset, .unset] [(.ref w24), (.int (7 : Int32)), (.ref b2), (.ref b2)])) rfl rfl (hb hby at_54)
  have V_b2_26 : Arv Z h26 b2 k2 (.object "com/example/open_frontier/openfrontier/frontend/Expression$BinaryOperator") (18 : Int32) [(.ref w3), (.ref w6), (.ref w9), (.ref w12), (.ref w15), (.ref w18), (.ref w21), (.ref w24), .null, .null, .null, .null, .null, .null, .null, .null, .null, .null] .null := Arv.set Ar_b2_54 q_b2_54 S_b2_54 N_b2_54 H_b2_54 G_b2_54 rfl W26 7 rfl (Nat.le_of_ble_eq_true rfl)
  have K26 : Keep h0 h26 [] := K23.wr W26 (Or.inr sz_b2)
  have N26 := Fr.snoc X26 N23 g_b2
  obtain ⟨T28, X28, e28, st28⟩ := getS2 X26 hx hZ hown (host := "") (Or.inl (hw _ (List.mem_of_getElem? (i := 20) rfl))) Via.refl e26 (S_GREATER.ext (own_ext K26)) (g := (mkF m 58 #[.val (.int p1), .unset, .unset, .unset] [(.int (8 : Int32)), (.ref b2), (.ref b2)])) rfl (hb hby at_58)
  obtain ⟨cl_b2_61, Ar_b2_61, q_b2_61, S_b2_61, N_b2_61, H_b2_61, G_b2_61⟩ := id V_b2_26
  have hin61 : ¬ ((8 : Int32) < 0 ∨ cl_b2_61.slots.size ≤ ((8 : Int32)).toNatClampNeg) := inb_of S_b2_61 ⟨by decide, by decide⟩
  obtain ⟨T29, h29, X29, e29, W29, st29⟩ := stR X28 hx hZ e28 Ar_b2_61 (j := (8 : Int32)) hin61 rfl (Sto.ofV Ar_b2_61 q_b2_61 O2 (Ins.self (E_w27.ext (own_ext K26)))) (g := (mkF m 61 #[.val (.int p1), .unset, .unset, .unset] [(.ref w27), (.int (8 : Int32)), (.ref b2), (.ref b2)])) rfl rfl (hb hby at_61)
  have V_b2_29 : Arv Z h29 b2 k2 (.object "com/example/open_frontier/openfrontier/frontend/Expression$BinaryOperator") (18 : Int32) [(.ref w3), (.ref w6), (.ref w9), (.ref w12), (.ref w15), (.ref w18), (.ref w21), (.ref w24), (.ref w27), .null, .null, .null, .null, .null, .null, .null, .null, .null] .null := Arv.set Ar_b2_61 q_b2_61 S_b2_61 N_b2_61 H_b2_61 G_b2_61 rfl W29 8 rfl (Nat.le_of_ble_eq_true rfl)
  have K29 : Keep h0 h29 [] := K26.wr W29 (Or.inr sz_b2)
  have N29 := Fr.snoc X29 N26 g_b2
  obtain ⟨T31, X31, e31, st31⟩ := getS2 X29 hx hZ hown (host := "") (Or.inl (hw _ (List.mem_of_getElem? (i := 22) rfl))) Via.refl e29 (S_LESS_EQUAL.ext (own_ext K29)) (g := (mkF m 65 #[.val (.int p1), .unset, .unset, .unset] [(.int (9 : Int32)), (.ref b2), (.ref b2)])) rfl (hb hby at_65)
  obtain ⟨cl_b2_68, Ar_b2_68, q_b2_68, S_b2_68, N_b2_68, H_b2_68, G_b2_68⟩ := id V_b2_29
  have hin68 : ¬ ((9 : Int32) < 0 ∨ cl_b2_68.slots.size ≤ ((9 : Int32)).toNatClampNeg) := inb_of S_b2_68 ⟨by decide, by decide⟩
  obtain ⟨T32, h32, X32, e32, W32, st32⟩ := stR X31 hx hZ e31 Ar_b2_68 (j := (9 : Int32)) hin68 rfl (Sto.ofV Ar_b2_68 q_b2_68 O2 (Ins.self (E_w30.ext (own_ext K29)))) (g := (mkF m 68 #[.val (.int p1), .unset, .unset, .unset] [(.ref w30), (.int (9 : Int32)), (.ref b2), (.ref b2)])) rfl rfl (hb hby at_68)
  have V_b2_32 : Arv Z h32 b2 k2 (.object "com/example/open_frontier/openfrontier/frontend/Expression$BinaryOperator") (18 : Int32) [(.ref w3), (.ref w6), (.ref w9), (.ref w12), (.ref w15), (.ref w18), (.ref w21), (.ref w24), (.ref w27), (.ref w30), .null, .null, .null, .null, .null, .null, .null, .null] .null := Arv.set Ar_b2_68 q_b2_68 S_b2_68 N_b2_68 H_b2_68 G_b2_68 rfl W32 9 rfl (Nat.le_of_ble_eq_true rfl)
  have K32 : Keep h0 h32 [] := K29.wr W32 (Or.inr sz_b2)
  have N32 := Fr.snoc X32 N29 g_b2
  obtain ⟨T34, X34, e34, st34⟩ := getS2 X32 hx hZ hown (host := "") (Or.inl (hw _ (List.mem_of_getElem? (i := 24) rfl))) Via.refl e32 (S_GREATER_EQUAL.ext (own_ext K32)) (g := (mkF m 72 #[.val (.int p1), .unset, .unset, .unset] [(.int (10 : Int32)), (.ref b2), (.ref b2)])) rfl (hb hby at_72)
  obtain ⟨cl_b2_75, Ar_b2_75, q_b2_75, S_b2_75, N_b2_75, H_b2_75, G_b2_75⟩ := id V_b2_32
  have hin75 : ¬ ((10 : Int32) < 0 ∨ cl_b2_75.slots.size ≤ ((10 : Int32)).toNatClampNeg) := inb_of S_b2_75 ⟨by decide, by decide⟩
  obtain ⟨T35, h35, X35, e35, W35, st35⟩ := stR X34 hx hZ e34 Ar_b2_75 (j := (10 : Int32)) hin75 rfl (Sto.ofV Ar_b2_75 q_b2_75 O2 (Ins.self (E_w33.ext (own_ext K32)))) (g := (mkF m 75 #[.val (.int p1), .unset, .unset, .unset] [(.ref w33), (.int (10 : Int32)), (.ref b2), (.ref b2)])) rfl rfl (hb hby at_75)
  have V_b2_35 : Arv Z h35 b2 k2 (.object "com/example/open_frontier/openfrontier/frontend/Expression$BinaryOperator") (18 : Int32) [(.ref w3), (.ref w6), (.ref w9), (.ref w12), (.ref w15), (.ref w18), (.ref w21), (.ref w24), (.ref w27), (.ref w30), (.ref w33), .null, .null, .null, .null, .null, .null, .null] .null := Arv.set Ar_b2_75 q_b2_75 S_b2_75 N_b2_75 H_b2_75 G_b2_75 rfl W35 10 rfl (Nat.le_of_ble_eq_true rfl)
  have K35 : Keep h0 h35 [] := K32.wr W35 (Or.inr sz_b2)
  have N35 := Fr.snoc X35 N32 g_b2
  obtain ⟨T37, X37, e37, st37⟩ := getS2 X35 hx hZ hown (host := "") (Or.inl (hw _ (List.mem_of_getElem? (i := 26) rfl))) Via.refl e35 (S_EQUAL.ext (own_ext K35)) (g := (mkF m 79 #[.val (.int p1), .unset, .unset, .unset] [(.int (11 : Int32)), (.ref b2), (.ref b2)])) rfl (hb hby at_79)
  obtain ⟨cl_b2_82, Ar_b2_82, q_b2_82, S_b2_82, N_b2_82, H_b2_82, G_b2_82⟩ := id V_b2_35
  have hin82 : ¬ ((11 : Int32) < 0 ∨ cl_b2_82.slots.size ≤ ((11 : Int32)).toNatClampNeg) := inb_of S_b2_82 ⟨by decide, by decide⟩
  obtain ⟨T38, h38, X38, e38, W38, st38⟩ := stR X37 hx hZ e37 Ar_b2_82 (j := (11 : Int32)) hin82 rfl (Sto.ofV Ar_b2_82 q_b2_82 O2 (Ins.self (E_w36.ext (own_ext K35)))) (g := (mkF m 82 #[.val (.int p1), .unset, .unset, .unset] [(.ref w36), (.int (11 : Int32)), (.ref b2), (.ref b2)])) rfl rfl (hb hby at_82)
  have V_b2_38 : Arv Z h38 b2 k2 (.object "com/example/open_frontier/openfrontier/frontend/Expression$BinaryOperator") (18 : Int32) [(.ref w3), (.ref w6), (.ref w9), (.ref w12), (.ref w15), (.ref w18), (.ref w21), (.ref w24), (.ref w27), (.ref w30), (.ref w33), (.ref w36), .null, .null, .null, .null, .null, .null] .null := Arv.set Ar_b2_82 q_b2_82 S_b2_82 N_b2_82 H_b2_82 G_b2_82 rfl W38 11 rfl (Nat.le_of_ble_eq_true rfl)
  have K38 : Keep h0 h38 [] := K35.wr W38 (Or.inr sz_b2)
  have N38 := Fr.snoc X38 N35 g_b2
  obtain ⟨T40, X40, e40, st40⟩ := getS2 X38 hx hZ hown (host := "") (Or.inl (hw _ (List.mem_of_getElem? (i := 28) rfl))) Via.refl e38 (S_NOT_EQUAL.ext (own_ext K38)) (g := (mkF m 86 #[.val (.int p1), .unset, .unset, .unset] [(.int (12 : Int32)), (.ref b2), (.ref b2)])) rfl (hb hby at_86)
  obtain ⟨cl_b2_89, Ar_b2_89, q_b2_89, S_b2_89, N_b2_89, H_b2_89, G_b2_89⟩ := id V_b2_38
  have hin89 : ¬ ((12 : Int32) < 0 ∨ cl_b2_89.slots.size ≤ ((12 : Int32)).toNatClampNeg) := inb_of S_b2_89 ⟨by decide, by decide⟩
  obtain ⟨T41, h41, X41, e41, W41, st41⟩ := stR X40 hx hZ e40 Ar_b2_89 (j := (12 : Int32)) hin89 rfl (Sto.ofV Ar_b2_89 q_b2_89 O2 (Ins.self (E_w39.ext (own_ext K38)))) (g := (mkF m 89 #[.val (.int p1), .unset, .unset, .unset] [(.ref w39), (.int (12 : Int32)), (.ref b2), (.ref b2)])) rfl rfl (hb hby at_89)
  have V_b2_41 : Arv Z h41 b2 k2 (.object "com/example/open_frontier/openfrontier/frontend/Expression$BinaryOperator") (18 : Int32) [(.ref w3), (.ref w6), (.ref w9), (.ref w12), (.ref w15), (.ref w18), (.ref w21), (.ref w24), (.ref w27), (.ref w30), (.ref w33), (.ref w36), (.ref w39), .null, .null, .null, .null, .null] .null := Arv.set Ar_b2_89 q_b2_89 S_b2_89 N_b2_89 H_b2_89 G_b2_89 rfl W41 12 rfl (Nat.le_of_ble_eq_true rfl)
  have K41 : Keep h0 h41 [] := K38.wr W41 (Or.inr sz_b2)
  have N41 := Fr.snoc X41 N38 g_b2
  obtain ⟨T43, X43, e43, st43⟩ := getS2 X41 hx hZ hown (host := "") (Or.inl (hw _ (List.mem_of_getElem? (i := 30) rfl))) Via.refl e41 (S_BIT_AND.ext (own_ext K41)) (g := (mkF m 93 #[.val (.int p1), .unset, .unset, .unset] [(.int (13 : Int32)), (.ref b2), (.ref b2)])) rfl (hb hby at_93)
  obtain ⟨cl_b2_96, Ar_b2_96, q_b2_96, S_b2_96, N_b2_96, H_b2_96, G_b2_96⟩ := id V_b2_41
  have hin96 : ¬ ((13 : Int32) < 0 ∨ cl_b2_96.slots.size ≤ ((13 : Int32)).toNatClampNeg) := inb_of S_b2_96 ⟨by decide, by decide⟩
  obtain ⟨T44, h44, X44, e44, W44, st44⟩ := stR X43 hx hZ e43 Ar_b2_96 (j := (13 : Int32)) hin96 rfl (Sto.ofV Ar_b2_96 q_b2_96 O2 (Ins.self (E_w42.ext (own_ext K41)))) (g := (mkF m 96 #[.val (.int p1), .unset, .unset, .unset] [(.ref w42), (.int (13 : Int32)), (.ref b2), (.ref b2)])) rfl rfl (hb hby at_96)
  have V_b2_44 : Arv Z h44 b2 k2 (.object "com/example/open_frontier/openfrontier/frontend/Expression$BinaryOperator") (18 : Int32) [(.ref w3), (.ref w6), (.ref w9), (.ref w12), (.ref w15), (.ref w18), (.ref w21), (.ref w24), (.ref w27), (.ref w30), (.ref w33), (.ref w36), (.ref w39), (.ref w42), .null, .null, .null, .null] .null := Arv.set Ar_b2_96 q_b2_96 S_b2_96 N_b2_96 H_b2_96 G_b2_96 rfl W44 13 rfl (Nat.le_of_ble_eq_true rfl)
  have K44 : Keep h0 h44 [] := K41.wr W44 (Or.inr sz_b2)
  have N44 := Fr.snoc X44 N41 g_b2
  obtain ⟨T46, X46, e46, st46⟩ := getS2 X44 hx hZ hown (host := "") (Or.inl (hw _ (List.mem_of_getElem? (i := 32) rfl))) Via.refl e44 (S_BIT_XOR.ext (own_ext K44)) (g := (mkF m 100 #[.val (.int p1), .unset, .unset, .unset] [(.int (14 : Int32)), (.ref b2), (.ref b2)])) rfl (hb hby at_100)
  obtain ⟨cl_b2_103, Ar_b2_103, q_b2_103, S_b2_103, N_b2_103, H_b2_103, G_b2_103⟩ := id V_b2_44
  have hin103 : ¬ ((14 : Int32) < 0 ∨ cl_b2_103.slots.size ≤ ((14 : Int32)).toNatClampNeg) := inb_of S_b2_103 ⟨by decide, by decide⟩
  obtain ⟨T47, h47, X47, e47, W47, st47⟩ := stR X46 hx hZ e46 Ar_b2_103 (j := (14 : Int32)) hin103 rfl (Sto.ofV Ar_b2_103 q_b2_103 O2 (Ins.self (E_w45.ext (own_ext K44)))) (g := (mkF m 103 #[.val (.int p1), .unset, .unset, .unset] [(.ref w45), (.int (14 : Int32)), (.ref b2), (.ref b2)])) rfl rfl (hb hby at_103)
  have V_b2_47 : Arv Z h47 b2 k2 (.object "com/example/open_frontier/openfrontier/frontend/Expression$BinaryOperator") (18 : Int32) [(.ref w3), (.ref w6), (.ref w9), (.ref w12), (.ref w15), (.ref w18), (.ref w21), (.ref w24), (.ref w27), (.ref w30), (.ref w33), (.ref w36), (.ref w39), (.ref w42), (.ref w45), .null, .null, .null] .null := Arv.set Ar_b2_103 q_b2_103 S_b2_103 N_b2_103 H_b2_103 G_b2_103 rfl W47 14 rfl (Nat.le_of_ble_eq_true rfl)
  have K47 : Keep h0 h47 [] := K44.wr W47 (Or.inr sz_b2)
  have N47 := Fr.snoc X47 N44 g_b2
  obtain ⟨T49, X49, e49, st49⟩ := getS2 X47 hx hZ hown (host := "") (Or.inl (hw _ (List.mem_of_getElem? (i := 34) rfl))) Via.refl e47 (S_BIT_OR.ext (own_ext K47)) (g := (mkF m 107 #[.val (.int p1), .unset, .unset, .unset] [(.int (15 : Int32)), (.ref b2), (.ref b2)])) rfl (hb hby at_107)
  obtain ⟨cl_b2_110, Ar_b2_110, q_b2_110, S_b2_110, N_b2_110, H_b2_110, G_b2_110⟩ := id V_b2_47
  have hin110 : ¬ ((15 : Int32) < 0 ∨ cl_b2_110.slots.size ≤ ((15 : Int32)).toNatClampNeg) := inb_of S_b2_110 ⟨by decide, by decide⟩
  obtain ⟨T50, h50, X50, e50, W50, st50⟩ := stR X49 hx hZ e49 Ar_b2_110 (j := (15 : Int32)) hin110 rfl (Sto.ofV Ar_b2_110 q_b2_110 O2 (Ins.self (E_w48.ext (own_ext K47)))) (g := (mkF m 110 #[.val (.int p1), .unset, .unset, .unset] [(.ref w48), (.int (15 : Int32)), (.ref b2), (.ref b2)])) rfl rfl (hb hby at_110)
  have V_b2_50 : Arv Z h50 b2 k2 (.object "com/example/open_frontier/openfrontier/frontend/Expression$BinaryOperator") (18 : Int32) [(.ref w3), (.ref w6), (.ref w9), (.ref w12), (.ref w15), (.ref w18), (.ref w21), (.ref w24), (.ref w27), (.ref w30), (.ref w33), (.ref w36), (.ref w39), (.ref w42), (.ref w45), (.ref w48), .null, .null] .null := Arv.set Ar_b2_110 q_b2_110 S_b2_110 N_b2_110 H_b2_110 G_b2_110 rfl W50 15 rfl (Nat.le_of_ble_eq_true rfl)
  have K50 : Keep h0 h50 [] := K47.wr W50 (Or.inr sz_b2)
  have N50 := Fr.snoc X50 N47 g_b2
  obtain ⟨T52, X52, e52, st52⟩ := getS2 X50 hx hZ hown (host := "") (Or.inl (hw _ (List.mem_of_getElem? (i := 36) rfl))) Via.refl e50 (S_LOGICAL_AND.ext (own_ext K50)) (g := (mkF m 114 #[.val (.int p1), .unset, .unset, .unset] [(.int (16 : Int32)), (.ref b2), (.ref b2)])) rfl (hb hby at_114)
  obtain ⟨cl_b2_117, Ar_b2_117, q_b2_117, S_b2_117, N_b2_117, H_b2_117, G_b2_117⟩ := id V_b2_50
  have hin117 : ¬ ((16 : Int32) < 0 ∨ cl_b2_117.slots.size ≤ ((16 : Int32)).toNatClampNeg) := inb_of S_b2_117 ⟨by decide, by decide⟩
  obtain ⟨T53, h53, X53, e53, W53, st53⟩ := stR X52 hx hZ e52 Ar_b2_117 (j := (16 : Int32)) hin117 rfl (Sto.ofV Ar_b2_117 q_b2_117 O2 (Ins.self (E_w51.ext (own_ext K50)))) (g := (mkF m 117 #[.val (.int p1), .unset, .unset, .unset] [(.ref w51), (.int (16 : Int32)), (.ref b2), (.ref b2)])) rfl rfl (hb hby at_117)
  have V_b2_53 : Arv Z h53 b2 k2 (.object "com/example/open_frontier/openfrontier/frontend/Expression$BinaryOperator") (18 : Int32) [(.ref w3), (.ref w6), (.ref w9), (.ref w12), (.ref w15), (.ref w18), (.ref w21), (.ref w24), (.ref w27), (.ref w30), (.ref w33), (.ref w36), (.ref w39), (.ref w42), (.ref w45), (.ref w48), (.ref w51), .null] .null := Arv.set Ar_b2_117 q_b2_117 S_b2_117 N_b2_117 H_b2_117 G_b2_117 rfl W53 16 rfl (Nat.le_of_ble_eq_true rfl)
  have K53 : Keep h0 h53 [] := K50.wr W53 (Or.inr sz_b2)
  have N53 := Fr.snoc X53 N50 g_b2
  obtain ⟨T55, X55, e55, st55⟩ := getS2 X53 hx hZ hown (host := "") (Or.inl (hw _ (List.mem_of_getElem? (i := 38) rfl))) Via.refl e53 (S_LOGICAL_OR.ext (own_ext K53)) (g := (mkF m 121 #[.val (.int p1), .unset, .unset, .unset] [(.int (17 : Int32)), (.ref b2), (.ref b2)])) rfl (hb hby at_121)
  obtain ⟨cl_b2_124, Ar_b2_124, q_b2_124, S_b2_124, N_b2_124, H_b2_124, G_b2_124⟩ := id V_b2_53
  have hin124 : ¬ ((17 : Int32) < 0 ∨ cl_b2_124.slots.size ≤ ((17 : Int32)).toNatClampNeg) := inb_of S_b2_124 ⟨by decide, by decide⟩
  obtain ⟨T56, h56, X56, e56, W56, st56⟩ := stR X55 hx hZ e55 Ar_b2_124 (j := (17 : Int32)) hin124 rfl (Sto.ofV Ar_b2_124 q_b2_124 O2 (Ins.self (E_w54.ext (own_ext K53)))) (g := (mkF m 124 #[.val (.int p1), .unset, .unset, .unset] [(.ref w54), (.int (17 : Int32)), (.ref b2), (.ref b2)])) rfl rfl (hb hby at_124)
  have V_b2_56 : Arv Z h56 b2 k2 (.object "com/example/open_frontier/openfrontier/frontend/Expression$BinaryOperator") (18 : Int32) [(.ref w3), (.ref w6), (.ref w9), (.ref w12), (.ref w15), (.ref w18), (.ref w21), (.ref w24), (.ref w27), (.ref w30), (.ref w33), (.ref w36), (.ref w39), (.ref w42), (.ref w45), (.ref w48), (.ref w51), (.ref w54)] .null := Arv.set Ar_b2_124 q_b2_124 S_b2_124 N_b2_124 H_b2_124 G_b2_124 rfl W56 17 rfl (Nat.le_of_ble_eq_true rfl)
  have K56 : Keep h0 h56 [] := K53.wr W56 (Or.inr sz_b2)
  have N56 := Fr.snoc X56 N53 g_b2
  obtain ⟨cl_b2_153, Ar_b2_153, q_b2_153, S_b2_153, N_b2_153, H_b2_153, G_b2_153⟩ := id V_b2_56
  have hin153 : ¬ (((p1 &&& (2147483647 : Int32)) % (18 : Int32)) < 0 ∨ cl_b2_153.slots.size ≤ (((p1 &&& (2147483647 : Int32)) % (18 : Int32))).toNatClampNeg) := inb_of S_b2_153 hinb153
  have hat153 : cl_b2_153.slots[(((p1 &&& (2147483647 : Int32)) % (18 : Int32))).toNatClampNeg]? = some (.ref w57) := H_b2_153.at hin153 hval153
  -- pc 154: com/example/open_frontier/openfrontier/frontend/Expression$BinaryOperator.isShift by the contract of the body that the receiver's class selects, rm1
  obtain ⟨cq58, kq58, q58a, q58b, q58c⟩ := isOf hZ e56 (E_w57.ext (own_ext K56))
  obtain ⟨_, _, ⟨T58, L58, k58, n58⟩, -, X58, ⟨Lc58, hQ58, l58, y58, z58⟩, st58⟩ := X56.virtualBack hx (y := (⟨"com/example/open_frontier/openfrontier/frontend/Expression$BinaryOperator", "isShift", "()Z"⟩ : MethodName)) (z := (⟨"com/example/open_frontier/openfrontier/frontend/Expression$BinaryOperator", "isShift", "()Z"⟩ : MethodName)) hown (mvT hZ (hw _ (List.mem_of_getElem? (i := 41) rfl))) (mvT hZ (hw _ (List.mem_of_getElem? (i := 42) rfl))) (notFace_of_selects (args := #[]) (mvT hZ (hw _ (List.mem_of_getElem? (i := 44) rfl)))) (mvT hZ (hw _ (List.mem_of_getElem? (i := 44) rfl))) (mvT hZ (hw _ (List.mem_of_getElem? (i := 43) rfl))) (by decide) (backOf (W := 0) (rm1 l Z a0 hw [] w57 w18 w21 h56 n0 (Nat.le_trans (Nat.le_trans (Nat.le_trans (Nat.le_trans (Nat.le_trans (Nat.le_trans (Nat.le_trans (Nat.le_trans (Nat.le_trans (Nat.le_trans (Nat.le_trans (Nat.le_trans (Nat.le_trans (Nat.le_trans (Nat.le_trans (Nat.le_trans (Nat.le_trans (Nat.le_trans (Nat.le_trans Z0 E2.1) (Keep.of_wr W5).1) (Keep.of_wr W8).1) (Keep.of_wr W11).1) (Keep.of_wr W14).1) (Keep.of_wr W17).1) (Keep.of_wr W20).1) (Keep.of_wr W23).1) (Keep.of_wr W26).1) (Keep.of_wr W29).1) (Keep.of_wr W32).1) (Keep.of_wr W35).1) (Keep.of_wr W38).1) (Keep.of_wr W41).1) (Keep.of_wr W44).1) (Keep.of_wr W47).1) (Keep.of_wr W50).1) (Keep.of_wr W53).1) (Keep.of_wr W56).1) (S_SHIFT_LEFT.ext (own_ext K56)) (S_SHIFT_RIGHT.ext (own_ext K56)) (1 : Int32) hbb) hZ (hw _ (List.mem_of_getElem? (i := 45) rfl)) (hw _ (List.mem_of_getElem? (i := 3) rfl)) (by decide) (by decide)) q58a q58c (g := (mkF m 154 #[.val (.int p1), .val (.ref b2), .val (.int ((p1 &&& (2147483647 : Int32)) % (18 : Int32))), .val (.int (1 : Int32))] [(.ref w57)])) rfl (by rw [hml]; rfl) (Steps.refl _) (argsL := []) (rest := []) (lenOf pd_0_0 rfl) rfl (by show 2 * 0 + _ ≤ _; exact Nat.le_of_eq rfl) (hb hby at_154) (fun _ _ => ⟨rfl, e56, (by decide : 1 + 0 ≤ _), (by decide : 18 + 0 ≤ _)⟩)
  dsimp only [Pt.U, Pt.locs, Pt.cells, Pt.slots] at X58 l58 y58 z58 st58 hQ58
  subst l58 y58 z58
  obtain ⟨rfl, N58q, eq58⟩ := hQ58
  have N58 := Fr.app N56 N58q
  obtain ⟨fs, hr, hrun, hended, hW, hsame⟩ := X58.leave (v := some (.int (1 : Int32))) (fun h => by rw [Bd.returns] at h; cases h)
  refine ⟨_, _, pre0 _ ?_, hrun, hended, _, _, rfl, ?_, ⟨_, rfl⟩, hW, hsame.mono (by decide) (by decide)⟩
  · show Steps p.tables e below (s₁.setTop (mkF m 0 #[.val (.int p1), .unset, .unset, .unset] [])) _
    refine XS.bipush X0.here hx rfl (hb hby at_0) ?_
    show Steps p.tables e below (s₁.setTop (mkF m 2 #[.val (.int p1), .unset, .unset, .unset] [(.int (18 : Int32))])) _
    refine st2 _ ?_
    show Steps p.tables e below (T2.setTop (mkF m 5 #[.val (.int p1), .unset, .unset, .unset] [(.ref b2)])) _
    refine XS.dup X2.here hx rfl (hb hby at_5) rfl rfl ?_
    show Steps p.tables e below (T2.setTop (mkF m 6 #[.val (.int p1), .unset, .unset, .unset] [(.ref b2), (.ref b2)])) _
    refine XS.iconst X2.here hx rfl (hb hby at_6) ?_
    show Steps p.tables e below (T2.setTop (mkF m 7 #[.val (.int p1), .unset, .unset, .unset] [(.int (0 : Int32)), (.ref b2), (.ref b2)])) _
    refine st4 _ ?_
    show Steps p.tables e below (T4.setTop (mkF m 10 #[.val (.int p1), .unset, .unset, .unset] [(.ref w3), (.int (0 : Int32)), (.ref b2), (.ref b2)])) _
    refine st5 _ ?_
    show Steps p.tables e below (T5.setTop (mkF m 11 #[.val (.int p1), .unset, .unset, .unset] [(.ref b2)])) _
    refine XS.dup X5.here hx rfl (hb hby at_11) rfl rfl ?_
    show Steps p.tables e below (T5.setTop (mkF m 12 #[.val (.int p1), .unset, .unset, .unset] [(.ref b2), (.ref b2)])) _
    refine XS.iconst X5.here hx rfl (hb hby at_12) ?_
    show Steps p.tables e below (T5.setTop (mkF m 13 #[.val (.int p1), .unset, .unset, .unset] [(.int (1 : Int32)), (.ref b2), (.ref b2)])) _
    refine st7 _ ?_
    show Steps p.tables e below (T7.setTop (mkF m 16 #[.val (.int p1), .unset, .unset, .unset] [(.ref w6), (.int (1 : Int32)), (.ref b2), (.ref b2)])) _
    refine st8 _ ?_
    show Steps p.tables e below (T8.setTop (mkF m 17 #[.val (.int p1), .unset, .unset, .unset] [(.ref b2)])) _
    refine XS.dup X8.here hx rfl (hb hby at_17) rfl rfl ?_
    show Steps p.tables e below (T8.setTop (mkF m 18 #[.val (.int p1), .unset, .unset, .unset] [(.ref b2), (.ref b2)])) _
    refine XS.iconst X8.here hx rfl (hb hby at_18) ?_
    show Steps p.tables e below (T8.setTop (mkF m 19 #[.val (.int p1), .unset, .unset, .unset] [(.int (2 : Int32)), (.ref b2), (.ref b2)])) _
    refine st10 _ ?_
    show Steps p.tables e below (T10.setTop (mkF m 22 #[.val (.int p1), .unset, .unset, .unset] [(.ref w9), (.int (2 : Int32)), (.ref b2), (.ref b2)])) _
    refine st11 _ ?_
    show Steps p.tables e below (T11.setTop (mkF m 23 #[.val (.int p1), .unset, .unset, .unset] [(.ref b2)])) _
    refine XS.dup X11.here hx rfl (hb hby at_23) rfl rfl ?_
    show Steps p.tables e below (T11.setTop (mkF m 24 #[.val (.int p1), .unset, .unset, .unset] [(.ref b2), (.ref b2)])) _
    refine XS.iconst X11.here hx rfl (hb hby at_24) ?_
    show Steps p.tables e below (T11.setTop (mkF m 25 #[.val (.int p1), .unset, .unset, .unset] [(.int (3 : Int32)), (.ref b2), (.ref b2)])) _
    refine st13 _ ?_
    show Steps p.tables e below (T13.setTop (mkF m 28 #[.val (.int p1), .unset, .unset, .unset] [(.ref w12), (.int (3 : Int32)), (.ref b2), (.ref b2)])) _
    refine st14 _ ?_
    show Steps p.tables e below (T14.setTop (mkF m 29 #[.val (.int p1), .unset, .unset, .unset] [(.ref b2)])) _
    refine XS.dup X14.here hx rfl (hb hby at_29) rfl rfl ?_
    show Steps p.tables e below (T14.setTop (mkF m 30 #[.val (.int p1), .unset, .unset, .unset] [(.ref b2), (.ref b2)])) _
    refine XS.iconst X14.here hx rfl (hb hby at_30) ?_
    show Steps p.tables e below (T14.setTop (mkF m 31 #[.val (.int p1), .unset, .unset, .unset] [(.int (4 : Int32)), (.ref b2), (.ref b2)])) _
    refine st16 _ ?_
    show Steps p.tables e below (T16.setTop (mkF m 34 #[.val (.int p1), .unset, .unset, .unset] [(.ref w15), (.int (4 : Int32)), (.ref b2), (.ref b2)])) _
    refine st17 _ ?_
    show Steps p.tables e below (T17.setTop (mkF m 35 #[.val (.int p1), .unset, .unset, .unset] [(.ref b2)])) _
    refine XS.dup X17.here hx rfl (hb hby at_35) rfl rfl ?_
    show Steps p.tables e below (T17.setTop (mkF m 36 #[.val (.int p1), .unset, .unset, .unset] [(.ref b2), (.ref b2)])) _
    refine XS.iconst X17.here hx rfl (hb hby at_36) ?_
    show Steps p.tables e below (T17.setTop (mkF m 37 #[.val (.int p1), .unset, .unset, .unset] [(.int (5 : Int32)), (.ref b2), (.ref b2)])) _
    refine st19 _ ?_
    show Steps p.tables e below (T19.setTop (mkF m 40 #[.val (.int p1), .unset, .unset, .unset] [(.ref w18), (.int (5 : Int32)), (.ref b2), (.ref b2)])) _
    refine st20 _ ?_
    show Steps p.tables e below (T20.setTop (mkF m 41 #[.val (.int p1), .unset, .unset, .unset] [(.ref b2)])) _
    refine XS.dup X20.here hx rfl (hb hby at_41) rfl rfl ?_
    show Steps p.tables e below (T20.setTop (mkF m 42 #[.val (.int p1), .unset, .unset, .unset] [(.ref b2), (.ref b2)])) _
    refine XS.bipush X20.here hx rfl (hb hby at_42) ?_
    show Steps p.tables e below (T20.setTop (mkF m 44 #[.val (.int p1), .unset, .unset, .unset] [(.int (6 : Int32)), (.ref b2), (.ref b2)])) _
    refine st22 _ ?_
    show Steps p.tables e below (T22.setTop (mkF m 47 #[.val (.int p1), .unset, .unset, .unset] [(.ref w21), (.int (6 : Int32)), (.ref b2), (.ref b2)])) _
    refine st23 _ ?_
    show Steps p.tables e below (T23.setTop (mkF m 48 #[.val (.int p1), .unset, .unset, .unset] [(.ref b2)])) _
    refine XS.dup X23.here hx rfl (hb hby at_48) rfl rfl ?_
    show Steps p.tables e below (T23.setTop (mkF m 49 #[.val (.int p1), .unset, .unset, .unset] [(.ref b2), (.ref b2)])) _
    refine XS.bipush X23.here hx rfl (hb hby at_49) ?_
    show Steps p.tables e below (T23.setTop (mkF m 51 #[.val (.int p1), .unset, .unset, .unset] [(.int (7 : Int32)), (.ref b2), (.ref b2)])) _
    refine st25 _ ?_
    show Steps p.tables e below (T25.setTop (mkF m 54 #[.val (.int p1), .unset, .unset, .unset] [(.ref w24), (.int (7 : Int32)), (.ref b2), (.ref b2)])) _
    refine st26 _ ?_
    show Steps p.tables e below (T26.setTop (mkF m 55 #[.val (.int p1), .unset, .unset, .unset] [(.ref b2)])) _
    refine XS.dup X26.here hx rfl (hb hby at_55) rfl rfl ?_
    show Steps p.tables e below (T26.setTop (mkF m 56 #[.val (.int p1), .unset, .unset, .unset] [(.ref b2), (.ref b2)])) _
    refine XS.bipush X26.here hx rfl (hb hby at_56) ?_
    show Steps p.tables e below (T26.setTop (mkF m 58 #[.val (.int p1), .unset, .unset, .unset] [(.int (8 : Int32)), (.ref b2), (.ref b2)])) _
    refine st28 _ ?_
    show Steps p.tables e below (T28.setTop (mkF m 61 #[.val (.int p1), .unset, .unset, .unset] [(.ref w27), (.int (8 : Int32)), (.ref b2), (.ref b2)])) _
    refine st29 _ ?_
    show Steps p.tables e below (T29.setTop (mkF m 62 #[.val (.int p1), .unset, .unset, .unset] [(.ref b2)])) _
    refine XS.dup X29.here hx rfl (hb hby at_62) rfl rfl ?_
    show Steps p.tables e below (T29.setTop (mkF m 63 #[.val (.int p1), .unset, .unset, .unset] [(.ref b2), (.ref b2)])) _
    refine XS.bipush X29.here hx rfl (hb hby at_63) ?_
    show Steps p.tables e below (T29.setTop (mkF m 65 #[.val (.int p1), .unset, .unset, .unset] [(.int (9 : Int32)), (.ref b2), (.ref b2)])) _
    refine st31 _ ?_
    show Steps p.tables e below (T31.setTop (mkF m 68 #[.val (.int p1), .unset, .unset, .unset] [(.ref w30), (.int (9 : Int32)), (.ref b2), (.ref b2)])) _
    refine st32 _ ?_
    show Steps p.tables e below (T32.setTop (mkF m 69 #[.val (.int p1), .unset, .unset, .unset] [(.ref b2)])) _
    refine XS.dup X32.here hx rfl (hb hby at_69) rfl rfl ?_
    show Steps p.tables e below (T32.setTop (mkF m 70 #[.val (.int p1), .unset, .unset, .unset] [(.ref b2), (.ref b2)])) _
    refine XS.bipush X32.here hx rfl (hb hby at_70) ?_
    show Steps p.tables e below (T32.setTop (mkF m 72 #[.val (.int p1), .unset, .unset, .unset] [(.int (10 : Int32)), (.ref b2), (.ref b2)])) _
    refine st34 _ ?_
    show Steps p.tables e below (T34.setTop (mkF m 75 #[.val (.int p1), .unset, .unset, .unset] [(.ref w33), (.int (10 : Int32)), (.ref b2), (.ref b2)])) _
    refine st35 _ ?_
    show Steps p.tables e below (T35.setTop (mkF m 76 #[.val (.int p1), .unset, .unset, .unset] [(.ref b2)])) _
    refine XS.dup X35.here hx rfl (hb hby at_76) rfl rfl ?_
    show Steps p.tables e below (T35.setTop (mkF m 77 #[.val (.int p1), .unset, .unset, .unset] [(.ref b2), (.ref b2)])) _
    refine XS.bipush X35.here hx rfl (hb hby at_77) ?_
    show Steps p.tables e below (T35.setTop (mkF m 79 #[.val (.int p1), .unset, .unset, .unset] [(.int (11 : Int32)), (.ref b2), (.ref b2)])) _
    refine st37 _ ?_
    show Steps p.tables e below (T37.setTop (mkF m 82 #[.val (.int p1), .unset, .unset, .unset] [(.ref w36), (.int (11 : Int32)), (.ref b2), (.ref b2)])) _
    refine st38 _ ?_
    show Steps p.tables e below (T38.setTop (mkF m 83 #[.val (.int p1), .unset, .unset, .unset] [(.ref b2)])) _
    refine XS.dup X38.here hx rfl (hb hby at_83) rfl rfl ?_
    show Steps p.tables e below (T38.setTop (mkF m 84 #[.val (.int p1), .unset, .unset, .unset] [(.ref b2), (.ref b2)])) _
    refine XS.bipush X38.here hx rfl (hb hby at_84) ?_
    show Steps p.tables e below (T38.setTop (mkF m 86 #[.val (.int p1), .unset, .unset, .unset] [(.int (12 : Int32)), (.ref b2), (.ref b2)])) _
    refine st40 _ ?_
    show Steps p.tables e below (T40.setTop (mkF m 89 #[.val (.int p1), .unset, .unset, .unset] [(.ref w39), (.int (12 : Int32)), (.ref b2), (.ref b2)])) _
    refine st41 _ ?_
    show Steps p.tables e below (T41.setTop (mkF m 90 #[.val (.int p1), .unset, .unset, .unset] [(.ref b2)])) _
    refine XS.dup X41.here hx rfl (hb hby at_90) rfl rfl ?_
    show Steps p.tables e below (T41.setTop (mkF m 91 #[.val (.int p1), .unset, .unset, .unset] [(.ref b2), (.ref b2)])) _
    refine XS.bipush X41.here hx rfl (hb hby at_91) ?_
    show Steps p.tables e below (T41.setTop (mkF m 93 #[.val (.int p1), .unset, .unset, .unset] [(.int (13 : Int32)), (.ref b2), (.ref b2)])) _
    refine st43 _ ?_
    show Steps p.tables e below (T43.setTop (mkF m 96 #[.val (.int p1), .unset, .unset, .unset] [(.ref w42), (.int (13 : Int32)), (.ref b2), (.ref b2)])) _
    refine st44 _ ?_
    show Steps p.tables e below (T44.setTop (mkF m 97 #[.val (.int p1), .unset, .unset, .unset] [(.ref b2)])) _
    refine XS.dup X44.here hx rfl (hb hby at_97) rfl rfl ?_
    show Steps p.tables e below (T44.setTop (mkF m 98 #[.val (.int p1), .unset, .unset, .unset] [(.ref b2), (.ref b2)])) _
    refine XS.bipush X44.here hx rfl (hb hby at_98) ?_
    show Steps p.tables e below (T44.setTop (mkF m 100 #[.val (.int p1), .unset, .unset, .unset] [(.int (14 : Int32)), (.ref b2), (.ref b2)])) _
    refine st46 _ ?_
    show Steps p.tables e below (T46.setTop (mkF m 103 #[.val (.int p1), .unset, .unset, .unset] [(.ref w45), (.int (14 : Int32)), (.ref b2), (.ref b2)])) _
    refine st47 _ ?_
    show Steps p.tables e below (T47.setTop (mkF m 104 #[.val (.int p1), .unset, .unset, .unset] [(.ref b2)])) _
    refine XS.dup X47.here hx rfl (hb hby at_104) rfl rfl ?_
    show Steps p.tables e below (T47.setTop (mkF m 105 #[.val (.int p1), .unset, .unset, .unset] [(.ref b2), (.ref b2)])) _
    refine XS.bipush X47.here hx rfl (hb hby at_105) ?_
    show Steps p.tables e below (T47.setTop (mkF m 107 #[.val (.int p1), .unset, .unset, .unset] [(.int (15 : Int32)), (.ref b2), (.ref b2)])) _
    refine st49 _ ?_
    show Steps p.tables e below (T49.setTop (mkF m 110 #[.val (.int p1), .unset, .unset, .unset] [(.ref w48), (.int (15 : Int32)), (.ref b2), (.ref b2)])) _
    refine st50 _ ?_
    show Steps p.tables e below (T50.setTop (mkF m 111 #[.val (.int p1), .unset, .unset, .unset] [(.ref b2)])) _
    refine XS.dup X50.here hx rfl (hb hby at_111) rfl rfl ?_
    show Steps p.tables e below (T50.setTop (mkF m 112 #[.val (.int p1), .unset, .unset, .unset] [(.ref b2), (.ref b2)])) _
    refine XS.bipush X50.here hx rfl (hb hby at_112) ?_
    show Steps p.tables e below (T50.setTop (mkF m 114 #[.val (.int p1), .unset, .unset, .unset] [(.int (16 : Int32)), (.ref b2), (.ref b2)])) _
    refine st52 _ ?_
    show Steps p.tables e below (T52.setTop (mkF m 117 #[.val (.int p1), .unset, .unset, .unset] [(.ref w51), (.int (16 : Int32)), (.ref b2), (.ref b2)])) _
    refine st53 _ ?_
    show Steps p.tables e below (T53.setTop (mkF m 118 #[.val (.int p1), .unset, .unset, .unset] [(.ref b2)])) _
    refine XS.dup X53.here hx rfl (hb hby at_118) rfl rfl ?_
    show Steps p.tables e below (T53.setTop (mkF m 119 #[.val (.int p1), .unset, .unset, .unset] [(.ref b2), (.ref b2)])) _
    refine XS.bipush X53.here hx rfl (hb hby at_119) ?_
    show Steps p.tables e below (T53.setTop (mkF m 121 #[.val (.int p1), .unset, .unset, .unset] [(.int (17 : Int32)), (.ref b2), (.ref b2)])) _
    refine st55 _ ?_
    show Steps p.tables e below (T55.setTop (mkF m 124 #[.val (.int p1), .unset, .unset, .unset] [(.ref w54), (.int (17 : Int32)), (.ref b2), (.ref b2)])) _
    refine st56 _ ?_
    show Steps p.tables e below (T56.setTop (mkF m 125 #[.val (.int p1), .unset, .unset, .unset] [(.ref b2)])) _
    refine XS.astoreN X56.here hx rfl (hb hby at_125) rfl rfl (l' := #[.val (.int p1), .val (.ref b2), .unset, .unset]) rfl ?_
    show Steps p.tables e below (T56.setTop (mkF m 126 #[.val (.int p1), .val (.ref b2), .unset, .unset] [])) _
    refine XS.iloadN X56.here hx rfl (hb hby at_126) rfl ?_
    show Steps p.tables e below (T56.setTop (mkF m 127 #[.val (.int p1), .val (.ref b2), .unset, .unset] [(.int p1)])) _
    refine ldcI X56 hx hown (mvT hZ (hw _ (List.mem_of_getElem? (i := 40) rfl))) rfl (hb hby at_127) ?_
    show Steps p.tables e below (T56.setTop (mkF m 129 #[.val (.int p1), .val (.ref b2), .unset, .unset] [(.int (2147483647 : Int32)), (.int p1)])) _
    refine XS.iand X56.here hx rfl (hb hby at_129) rfl ?_
    show Steps p.tables e below (T56.setTop (mkF m 130 #[.val (.int p1), .val (.ref b2), .unset, .unset] [(.int (p1 &&& (2147483647 : Int32)))])) _
    refine XS.bipush X56.here hx rfl (hb hby at_130) ?_
    show Steps p.tables e below (T56.setTop (mkF m 132 #[.val (.int p1), .val (.ref b2), .unset, .unset] [(.int (18 : Int32)), (.int (p1 &&& (2147483647 : Int32)))])) _
    refine iremM X56 hx rfl (hb hby at_132) rfl (by decide) ?_
    show Steps p.tables e below (T56.setTop (mkF m 133 #[.val (.int p1), .val (.ref b2), .unset, .unset] [(.int ((p1 &&& (2147483647 : Int32)) % (18 : Int32)))])) _
    refine XS.istoreN X56.here hx rfl (hb hby at_133) rfl (l' := #[.val (.int p1), .val (.ref b2), .val (.int ((p1 &&& (2147483647 : Int32)) % (18 : Int32))), .unset]) rfl ?_
    show Steps p.tables e below (T56.setTop (mkF m 134 #[.val (.int p1), .val (.ref b2), .val (.int ((p1 &&& (2147483647 : Int32)) % (18 : Int32))), .unset] [])) _
    refine XS.iloadN X56.here hx rfl (hb hby at_134) rfl ?_
    show Steps p.tables e below (T56.setTop (mkF m 135 #[.val (.int p1), .val (.ref b2), .val (.int ((p1 &&& (2147483647 : Int32)) % (18 : Int32))), .unset] [(.int ((p1 &&& (2147483647 : Int32)) % (18 : Int32)))])) _
    refine XS.iconst X56.here hx rfl (hb hby at_135) ?_
    show Steps p.tables e below (T56.setTop (mkF m 136 #[.val (.int p1), .val (.ref b2), .val (.int ((p1 &&& (2147483647 : Int32)) % (18 : Int32))), .unset] [(.int (5 : Int32)), (.int ((p1 &&& (2147483647 : Int32)) % (18 : Int32)))])) _
    refine XS.icmpYes X56.here hx rfl (pc0 := 136) (pc' := 145) rfl (hb hby at_136) rfl (teq hc136).1 (by decide) (by decide) ?_
    show Steps p.tables e below (T56.setTop (mkF m 145 #[.val (.int p1), .val (.ref b2), .val (.int ((p1 &&& (2147483647 : Int32)) % (18 : Int32))), .unset] [])) _
    refine XS.iconst X56.here hx rfl (hb hby at_145) ?_
    show Steps p.tables e below (T56.setTop (mkF m 146 #[.val (.int p1), .val (.ref b2), .val (.int ((p1 &&& (2147483647 : Int32)) % (18 : Int32))), .unset] [(.int (1 : Int32))])) _
    refine XS.goto X56.here hx rfl (pc0 := 146) (pc' := 150) rfl (hb hby at_146) (by decide) (by decide) ?_
    show Steps p.tables e below (T56.setTop (mkF m 150 #[.val (.int p1), .val (.ref b2), .val (.int ((p1 &&& (2147483647 : Int32)) % (18 : Int32))), .unset] [(.int (1 : Int32))])) _
    refine XS.istoreN X56.here hx rfl (hb hby at_150) rfl (l' := #[.val (.int p1), .val (.ref b2), .val (.int ((p1 &&& (2147483647 : Int32)) % (18 : Int32))), .val (.int (1 : Int32))]) rfl ?_
    show Steps p.tables e below (T56.setTop (mkF m 151 #[.val (.int p1), .val (.ref b2), .val (.int ((p1 &&& (2147483647 : Int32)) % (18 : Int32))), .val (.int (1 : Int32))] [])) _
    refine XS.aloadN X56.here hx rfl (hb hby at_151) rfl rfl ?_
    show Steps p.tables e below (T56.setTop (mkF m 152 #[.val (.int p1), .val (.ref b2), .val (.int ((p1 &&& (2147483647 : Int32)) % (18 : Int32))), .val (.int (1 : Int32))] [(.ref b2)])) _
    refine XS.iloadN X56.here hx rfl (hb hby at_152) rfl ?_
    show Steps p.tables e below (T56.setTop (mkF m 153 #[.val (.int p1), .val (.ref b2), .val (.int ((p1 &&& (2147483647 : Int32)) % (18 : Int32))), .val (.int (1 : Int32))] [(.int ((p1 &&& (2147483647 : Int32)) % (18 : Int32))), (.ref b2)])) _
    refine X56.aaload hx (j := ((p1 &&& (2147483647 : Int32)) % (18 : Int32))) (v := (.ref w57)) (by rw [e56]; exact Ar_b2_153.1) (State.isArrayOf_alike hZ.alike Ar_b2_153.2.1) rfl Ar_b2_153.2.2 hin153 hat153 (g := (mkF m 153 #[.val (.int p1), .val (.ref b2), .val (.int ((p1 &&& (2147483647 : Int32)) % (18 : Int32))), .val (.int (1 : Int32))] [(.int ((p1 &&& (2147483647 : Int32)) % (18 : Int32))), (.ref b2)])) rfl rfl (hb hby at_153) _ ?_
    show Steps p.tables e below (T56.setTop (mkF m 154 #[.val (.int p1), .val (.ref b2), .val (.int ((p1 &&& (2147483647 : Int32)) % (18 : Int32))), .val (.int (1 : Int32))] [(.ref w57)])) _
    refine st58.trans ?_
    show Steps p.tables e below (T58.setTop (mkF m 157 #[.val (.int p1), .val (.ref b2), .val (.int ((p1 &&& (2147483647 : Int32)) % (18 : Int32))), .val (.int (1 : Int32))] [(.int (1 : Int32))])) _
    refine XS.iloadN X58.here hx rfl (hb hby at_157) rfl ?_
    show Steps p.tables e below (T58.setTop (mkF m 158 #[.val (.int p1), .val (.ref b2), .val (.int ((p1 &&& (2147483647 : Int32)) % (18 : Int32))), .val (.int (1 : Int32))] [(.int (1 : Int32)), (.int (1 : Int32))])) _
    refine XS.icmpNo X58.here hx rfl (hb hby at_158) rfl (teq (rfl : (1 : Int32) = (1 : Int32))).2 ?_
    show Steps p.tables e below (T58.setTop (mkF m 161 #[.val (.int p1), .val (.ref b2), .val (.int ((p1 &&& (2147483647 : Int32)) % (18 : Int32))), .val (.int (1 : Int32))] [])) _
    refine XS.iconst X58.here hx rfl (hb hby at_161) ?_
    show Steps p.tables e below (T58.setTop (mkF m 162 #[.val (.int p1), .val (.ref b2), .val (.int ((p1 &&& (2147483647 : Int32)) % (18 : Int32))), .val (.int (1 : Int32))] [(.int (1 : Int32))])) _
    refine XS.goto X58.here hx rfl (pc0 := 162) (pc' := 166) rfl (hb hby at_162) (by decide) (by decide) ?_
    show Steps p.tables e below (T58.setTop (mkF m 166 #[.val (.int p1), .val (.ref b2), .val (.int ((p1 &&& (2147483647 : Int32)) % (18 : Int32))), .val (.int (1 : Int32))] [(.int (1 : Int32))])) _
    exact retN X58 hx (t := .boolean) Bd.returns (by simp) (hb hby at_166) hr
  · show Q0 n0 _ T58.heap _
    rw [eq58]
    exact ⟨rfl, N58⟩

set_option maxRecDepth 65536 in
set_option maxHeartbeats 40000000 in
theorem rm0_1 (l : Launch) (Z : State) (a0 : Array Value) (hw : ∀ d ∈ tables_1, d.before a0 Z = true) (ws : List Jvm.Cond) (p1 : Int32) (w3 : Addr) (w6 : Addr) (w9 : Addr) (w12 : Addr) (w15 : Addr) (w18 : Addr) (w21 : Addr) (w24 : Addr) (w27 : Addr) (w30 : Addr) (w33 : Addr) (w36 : Addr) (w39 : Addr) (w42 : Addr) (w45 : Addr) (w48 : Addr) (w51 : Addr) (w54 : Addr) (w57 : Addr) (h0 : Heap) (n0 : Nat) (Z0 : n0 ≤ h0.size) (S_MULTIPLY : Sta Z h0 "com/example/open_frontier/openfrontier/frontend/Expression$BinaryOperator" "MULTIPLY" "Lcom/example/open_frontier/openfrontier/frontend/Expression$BinaryOperator;" (.ref w3)) (E_w3 : Exa Z h0 w3 "com/example/open_frontier/openfrontier/frontend/Expression$BinaryOperator") (S_DIVIDE : Sta Z h0 "com/example/open_frontier/openfrontier/frontend/Expression$BinaryOperator" "DIVIDE" "Lcom/example/open_frontier/openfrontier/frontend/Expression$BinaryOperator;" (.ref w6)) (E_w6 : Exa Z h0 w6 "com/example/open_frontier/openfrontier/frontend/Expression$BinaryOperator") (S_REMAINDER : Sta Z h0 "com/example/open_frontier/openfrontier/frontend/Expression$BinaryOperator" "REMAINDER" "Lcom/example/open_frontier/openfrontier/frontend/Expression$BinaryOperator;" (.ref w9)) (E_w9 : Exa Z h0 w9 "com/example/open_frontier/openfrontier/frontend/Expression$BinaryOperator") (S_ADD : Sta Z h0 "com/example/open_frontier/openfrontier/frontend/Expression$BinaryOperator" "ADD" "Lcom/example/open_frontier/openfrontier/frontend/Expression$BinaryOperator;" (.ref w12)) (E_w12 : Exa Z h0 w12 "com/example/open_frontier/openfrontier/frontend/Expression$BinaryOperator") (S_SUBTRACT : Sta Z h0 "com/example/open_frontier/openfrontier/frontend/Expression$BinaryOperator" "SUBTRACT" "Lcom/example/open_frontier/openfrontier/frontend/Expression$BinaryOperator;" (.ref w15)) (E_w15 : Exa Z h0 w15 "com/example/open_frontier/openfrontier/frontend/Expression$BinaryOperator") (S_SHIFT_LEFT : Sta Z h0 "com/example/open_frontier/openfrontier/frontend/Expression$BinaryOperator" "SHIFT_LEFT" "Lcom/example/open_frontier/openfrontier/frontend/Expression$BinaryOperator;" (.ref w18)) (E_w18 : Exa Z h0 w18 "com/example/open_frontier/openfrontier/frontend/Expression$BinaryOperator") (S_SHIFT_RIGHT : Sta Z h0 "com/example/open_frontier/openfrontier/frontend/Expression$BinaryOperator" "SHIFT_RIGHT" "Lcom/example/open_frontier/openfrontier/frontend/Expression$BinaryOperator;" (.ref w21)) (E_w21 : Exa Z h0 w21 "com/example/open_frontier/openfrontier/frontend/Expression$BinaryOperator") (S_LESS : Sta Z h0 "com/example/open_frontier/openfrontier/frontend/Expression$BinaryOperator" "LESS" "Lcom/example/open_frontier/openfrontier/frontend/Expression$BinaryOperator;" (.ref w24)) (E_w24 : Exa Z h0 w24 "com/example/open_frontier/openfrontier/frontend/Expression$BinaryOperator") (S_GREATER : Sta Z h0 "com/example/open_frontier/openfrontier/frontend/Expression$BinaryOperator" "GREATER" "Lcom/example/open_frontier/openfrontier/frontend/Expression$BinaryOperator;" (.ref w27)) (E_w27 : Exa Z h0 w27 "com/example/open_frontier/openfrontier/frontend/Expression$BinaryOperator") (S_LESS_EQUAL : Sta Z h0 "com/example/open_frontier/openfrontier/frontend/Expression$BinaryOperator" "LESS_EQUAL" "Lcom/example/open_frontier/openfrontier/frontend/Expression$BinaryOperator;" (.ref w30)) (E_w30 : Exa Z h0 w30 "com/example/open_frontier/openfrontier/frontend/Expression$BinaryOperator") (S_GREATER_EQUAL : Sta Z h0 "com/example/open_frontier/openfrontier/frontend/Expression$BinaryOperator" "GREATER_EQUAL" "Lcom/example/open_frontier/openfrontier/frontend/Expression$BinaryOperator;" (.ref w33)) (E_w33 : Exa Z h0 w33 "com/example/open_frontier/openfrontier/frontend/Expression$BinaryOperator") (S_EQUAL : Sta Z h0 "com/example/open_frontier/openfrontier/frontend/Expression$BinaryOperator" "EQUAL" "Lcom/example/open_frontier/openfrontier/frontend/Expression$BinaryOperator;" (.ref w36)) (E_w36 : Exa Z h0 w36 "com/example/open_frontier/openfrontier/frontend/Expression$BinaryOperator") (S_NOT_EQUAL : Sta Z h0 "com/example/open_frontier/openfrontier/frontend/Expression$BinaryOperator" "NOT_EQUAL" "Lcom/example/open_frontier/openfrontier/frontend/Expression$BinaryOperator;" (.ref w39)) (E_w39 : Exa Z h0 w39 "com/example/open_frontier/openfrontier/frontend/Expression$BinaryOperator") (S_BIT_AND : Sta Z h0 "com/example/open_frontier/openfrontier/frontend/Expression$BinaryOperator" "BIT_AND" "Lcom/example/open_frontier/openfrontier/frontend/Expression$BinaryOperator;" (.ref w42)) (E_w42 : Exa Z h0 w42 "com/example/open_frontier/openfrontier/frontend/Expression$BinaryOperator") (S_BIT_XOR : Sta Z h0 "com/example/open_frontier/openfrontier/frontend/Expression$BinaryOperator" "BIT_XOR" "Lcom/example/open_frontier/openfrontier/frontend/Expression$BinaryOperator;" (.ref w45)) (E_w45 : Exa Z h0 w45 "com/example/open_frontier/openfrontier/frontend/Expression$BinaryOperator") (S_BIT_OR : Sta Z h0 "com/example/open_frontier/openfrontier/frontend/Expression$BinaryOperator" "BIT_OR" "Lcom/example/open_frontier/openfrontier/frontend/Expression$BinaryOperator;" (.ref w48)) (E_w48 : Exa Z h0 w48 "com/example/open_frontier/openfrontier/frontend/Expression$BinaryOperator") (S_LOGICAL_AND : Sta Z h0 "com/example/open_frontier/openfrontier/frontend/Expression$BinaryOperator" "LOGICAL_AND" "Lcom/example/open_frontier/openfrontier/frontend/Expression$BinaryOperator;" (.ref w51)) (E_w51 : Exa Z h0 w51 "com/example/open_frontier/openfrontier/frontend/Expression$BinaryOperator") (S_LOGICAL_OR : Sta Z h0 "com/example/open_frontier/openfrontier/frontend/Expression$BinaryOperator" "LOGICAL_OR" "Lcom/example/open_frontier/openfrontier/frontend/Expression$BinaryOperator;" (.ref w54)) (E_w54 : Exa Z h0 w54 "com/example/open_frontier/openfrontier/frontend/Expression$BinaryOperator") (hinb153 : ¬ ((p1 &&& (2147483647 : Int32)) % (18 : Int32)) < 0 ∧ ((p1 &&& (2147483647 : Int32)) % (18 : Int32)) < (18 : Int32)) (hval153 : (([.ref w3, .ref w6, .ref w9, .ref w12, .ref w15, .ref w18, .ref w21, .ref w24, .ref w27, .ref w30, .ref w33, .ref w36, .ref w39, .ref w42, .ref w45, .ref w48, .ref w51, .ref w54] : List Value)).getD (((p1 &&& (2147483647 : Int32)) % (18 : Int32))).toNatClampNeg .null = (.ref w57)) (E_w57 : Exa Z h0 w57 "com/example/open_frontier/openfrontier/frontend/Expression$BinaryOperator") (hbb : (((1 : Int32) = 1 ∧ (w57 = w18 ∨ w57 = w21)) ∨ ((1 : Int32) = 0 ∧ ¬ w57 = w18 ∧ ¬ w57 = w21))) (hc136 : ¬ (((p1 &&& (2147483647 : Int32)) % (18 : Int32)) = (5 : Int32))) (hc142 : ((p1 &&& (2147483647 : Int32)) % (18 : Int32)) = (6 : Int32)) :
    MetFree l x (head1 (Jvm.Cond.code x code maxLocals ret :: ws) room_1) (fun a U => a = #[(.int p1)] ∧ Z.Warmed39 U.vm ∧ U.heap = h0) (fun _ _ _ _ _ => True) (fun _ U o U' => ∃ v L, o = .returned v ∧ Q0 n0 v U'.heap L ∧ FrameEnd U o U' L room_1.cells room_1.slots) := by
  refine MetFree.of_bodySF (plainFor_of_name pn_0) hisR ?_
  intro p e s m args below meth c s₁ Bd hml0 hP hK
  obtain ⟨rfl, hZ, hh⟩ := hP
  have hx := Bd.exec
  have hby := Bd.bytes
  have hml : c.maxLocals = 4 := hml0
  have hown : s.vm.findClass "com/example/open_frontier/openfrontier/frontend/BinaryOperatorIsShiftPinLaw" = some m.cls := findClass_of_methodNamed Bd.named
  have hnm := (name_of_methodNamed Bd.named Bd.method).1
  have X0 : Stand p l e room_1 s m #[(.int p1)] below meth c s₁ [] 0 0 := Stand.of_body Bd
  have e0 : s₁.heap = h0 := by rw [← hh, Bd.state]; rfl
  have N0 := Fr.nil n0
  have pre0 : ∀ t, Steps p.tables e below (s₁.setTop (mkF m 0 #[.val (.int p1), .unset, .unset, .unset] [])) t → Steps p.tables e below (s₁.setTop (entryFrame m #[(.int p1)] maxLocals)) t := fun t k => castTop (ef_0 m p1) k
  obtain ⟨T2, h2, k2, X2, e2, E2, A2, O2, st2⟩ := newR X0 hx hZ hown (hw _ (List.mem_of_getElem? (i := 0) rfl)) (hw _ (List.mem_of_getElem? (i := 1) rfl)) e0 (g := (mkF m 2 #[.val (.int p1), .unset, .unset, .unset] [(.int (18 : Int32))])) rfl (hb hby at_2) rfl (by decide) (cap := 18) (by decide) (by decide) (by decide) (by decide)
  obtain ⟨b2, g2⟩ : ∃ z, z = h0.size := ⟨_, rfl⟩      -- the fresh array's address
  rw [← g2] at A2 st2
  have V_b2 : Arv Z h2 b2 k2 (.object "com/example/open_frontier/openfrontier/frontend/Expression$BinaryOperator") (18 : Int32) [.null, .null, .null, .null, .null, .null, .null, .null, .null, .null, .null, .null, .null, .null, .null, .null, .null, .null] .null := (Arv.new A2 (by decide)).pad (pad_rep [] .null 18)
  have g_b2 : n0 ≤ b2 := Nat.le_trans Z0 (Nat.le_of_eq g2.symm)
  have sz_b2 : h0.size ≤ b2 := (Nat.le_trans (Keep.refl h0 []).1 (Nat.le_of_eq g2.symm))
  have K2 : Keep h0 h2 [] := (Keep.refl h0 []).ext E2
  obtain ⟨T4, X4, e4, st4⟩ := getS2 X2 hx hZ hown (host := "") (Or.inl (hw _ (List.mem_of_getElem? (i := 2) rfl))) Via.refl e2 (S_MULTIPLY.ext (own_ext K2)) (g := (mkF m 7 #[.val (.int p1), .unset, .unset, .unset] [(.int (0 : Int32)), (.ref b2), (.ref b2)])) rfl (hb hby at_7)
  obtain ⟨cl_b2_10, Ar_b2_10, q_b2_10, S_b2_10, N_b2_10, H_b2_10, G_b2_10⟩ := id V_b2
  have hin10 : ¬ ((0 : Int32) < 0 ∨ cl_b2_10.slots.size ≤ ((0 : Int32)).toNatClampNeg) := inb_of S_b2_10 ⟨by decide, by decide⟩
  obtain ⟨T5, h5, X5, e5, W5, st5⟩ := stR X4 hx hZ e4 Ar_b2_10 (j := (0 : Int32)) hin10 rfl (Sto.ofV Ar_b2_10 q_b2_10 O2 (Ins.self (E_w3.ext (own_ext K2)))) (g := (mkF m 10 #[.val (.int p1), .unset, .unset, .unset] [(.ref w3), (.int (0 : Int32)), (.ref b2), (.ref b2)])) rfl rfl (hb hby at_10)
  have V_b2_5 : Arv Z h5 b2 k2 (.object "com/example/open_frontier/openfrontier/frontend/Expression$BinaryOperator") (18 : Int32) [(.ref w3), .null, .null, .null, .null, .null, .null, .null, .null, .null, .null, .null, .null, .null, .null, .null, .null, .null] .null := Arv.set Ar_b2_10 q_b2_10 S_b2_10 N_b2_10 H_b2_10 G_b2_10 rfl W5 0 rfl (Nat.le_of_ble_eq_true rfl)
  have K5 : Keep h0 h5 [] := K2.wr W5 (Or.inr sz_b2)
  have N5 := Fr.snoc X5 N0 g_b2
  obtain ⟨T7, X7, e7, st7⟩ := getS2 X5 hx hZ hown (host := "") (Or.inl (hw _ (List.mem_of_getElem? (i := 6) rfl))) Via.refl e5 (S_DIVIDE.ext (own_ext K5)) (g := (mkF m 13 #[.val (.int p1), .unset, .unset, .unset] [(.int (1 : Int32)), (.ref b2), (.ref b2)])) rfl (hb hby at_13)
  obtain ⟨cl_b2_16, Ar_b2_16, q_b2_16, S_b2_16, N_b2_16, H_b2_16, G_b2_16⟩ := id V_b2_5
  have hin16 : ¬ ((1 : Int32) < 0 ∨ cl_b2_16.slots.size ≤ ((1 : Int32)).toNatClampNeg) := inb_of S_b2_16 ⟨by decide, by decide⟩
  obtain ⟨T8, h8, X8, e8, W8, st8⟩ := stR X7 hx hZ e7 Ar_b2_16 (j := (1 : Int32)) hin16 rfl (Sto.ofV Ar_b2_16 q_b2_16 O2 (Ins.self (E_w6.ext (own_ext K5)))) (g := (mkF m 16 #[.val (.int p1), .unset, .unset, .unset] [(.ref w6), (.int (1 : Int32)), (.ref b2), (.ref b2)])) rfl rfl (hb hby at_16)
  have V_b2_8 : Arv Z h8 b2 k2 (.object "com/example/open_frontier/openfrontier/frontend/Expression$BinaryOperator") (18 : Int32) [(.ref w3), (.ref w6), .null, .null, .null, .null, .null, .null, .null, .null, .null, .null, .null, .null, .null, .null, .null, .null] .null := Arv.set Ar_b2_16 q_b2_16 S_b2_16 N_b2_16 H_b2_16 G_b2_16 rfl W8 1 rfl (Nat.le_of_ble_eq_true rfl)
  have K8 : Keep h0 h8 [] := K5.wr W8 (Or.inr sz_b2)
  have N8 := Fr.snoc X8 N5 g_b2
  obtain ⟨T10, X10, e10, st10⟩ := getS2 X8 hx hZ hown (host := "") (Or.inl (hw _ (List.mem_of_getElem? (i := 8) rfl))) Via.refl e8 (S_REMAINDER.ext (own_ext K8)) (g := (mkF m 19 #[.val (.int p1), .unset, .unset, .unset] [(.int (2 : Int32)), (.ref b2), (.ref b2)])) rfl (hb hby at_19)
  obtain ⟨cl_b2_22, Ar_b2_22, q_b2_22, S_b2_22, N_b2_22, H_b2_22, G_b2_22⟩ := id V_b2_8
  have hin22 : ¬ ((2 : Int32) < 0 ∨ cl_b2_22.slots.size ≤ ((2 : Int32)).toNatClampNeg) := inb_of S_b2_22 ⟨by decide, by decide⟩
  obtain ⟨T11, h11, X11, e11, W11, st11⟩ := stR X10 hx hZ e10 Ar_b2_22 (j := (2 : Int32)) hin22 rfl (Sto.ofV Ar_b2_22 q_b2_22 O2 (Ins.self (E_w9.ext (own_ext K8)))) (g := (mkF m 22 #[.val (.int p1), .unset, .unset, .unset] [(.ref w9), (.int (2 : Int32)), (.ref b2), (.ref b2)])) rfl rfl (hb hby at_22)
  have V_b2_11 : Arv Z h11 b2 k2 (.object "com/example/open_frontier/openfrontier/frontend/Expression$BinaryOperator") (18 : Int32) [(.ref w3), (.ref w6), (.ref w9), .null, .null, .null, .null, .null, .null, .null, .null, .null, .null, .null, .null, .null, .null, .null] .null := Arv.set Ar_b2_22 q_b2_22 S_b2_22 N_b2_22 H_b2_22 G_b2_22 rfl W11 2 rfl (Nat.le_of_ble_eq_true rfl)
  have K11 : Keep h0 h11 [] := K8.wr W11 (Or.inr sz_b2)
  have N11 := Fr.snoc X11 N8 g_b2
  obtain ⟨T13, X13, e13, st13⟩ := getS2 X11 hx hZ hown (host := "") (Or.inl (hw _ (List.mem_of_getElem? (i := 10) rfl))) Via.refl e11 (S_ADD.ext (own_ext K11)) (g := (mkF m 25 #[.val (.int p1), .unset, .unset, .unset] [(.int (3 : Int32)), (.ref b2), (.ref b2)])) rfl (hb hby at_25)
  obtain ⟨cl_b2_28, Ar_b2_28, q_b2_28, S_b2_28, N_b2_28, H_b2_28, G_b2_28⟩ := id V_b2_11
  have hin28 : ¬ ((3 : Int32) < 0 ∨ cl_b2_28.slots.size ≤ ((3 : Int32)).toNatClampNeg) := inb_of S_b2_28 ⟨by decide, by decide⟩
  obtain ⟨T14, h14, X14, e14, W14, st14⟩ := stR X13 hx hZ e13 Ar_b2_28 (j := (3 : Int32)) hin28 rfl (Sto.ofV Ar_b2_28 q_b2_28 O2 (Ins.self (E_w12.ext (own_ext K11)))) (g := (mkF m 28 #[.val (.int p1), .unset, .unset, .unset] [(.ref w12), (.int (3 : Int32)), (.ref b2), (.ref b2)])) rfl rfl (hb hby at_28)
  have V_b2_14 : Arv Z h14 b2 k2 (.object "com/example/open_frontier/openfrontier/frontend/Expression$BinaryOperator") (18 : Int32) [(.ref w3), (.ref w6), (.ref w9), (.ref w12), .null, .null, .null, .null, .null, .null, .null, .null, .null, .null, .null, .null, .null, .null] .null := Arv.set Ar_b2_28 q_b2_28 S_b2_28 N_b2_28 H_b2_28 G_b2_28 rfl W14 3 rfl (Nat.le_of_ble_eq_true rfl)
  have K14 : Keep h0 h14 [] := K11.wr W14 (Or.inr sz_b2)
  have N14 := Fr.snoc X14 N11 g_b2
  obtain ⟨T16, X16, e16, st16⟩ := getS2 X14 hx hZ hown (host := "") (Or.inl (hw _ (List.mem_of_getElem? (i := 12) rfl))) Via.refl e14 (S_SUBTRACT.ext (own_ext K14)) (g := (mkF m 31 #[.val (.int p1), .unset, .unset, .unset] [(.int (4 : Int32)), (.ref b2), (.ref b2)])) rfl (hb hby at_31)
  obtain ⟨cl_b2_34, Ar_b2_34, q_b2_34, S_b2_34, N_b2_34, H_b2_34, G_b2_34⟩ := id V_b2_14
  have hin34 : ¬ ((4 : Int32) < 0 ∨ cl_b2_34.slots.size ≤ ((4 : Int32)).toNatClampNeg) := inb_of S_b2_34 ⟨by decide, by decide⟩
  obtain ⟨T17, h17, X17, e17, W17, st17⟩ := stR X16 hx hZ e16 Ar_b2_34 (j := (4 : Int32)) hin34 rfl (Sto.ofV Ar_b2_34 q_b2_34 O2 (Ins.self (E_w15.ext (own_ext K14)))) (g := (mkF m 34 #[.val (.int p1), .unset, .unset, .unset] [(.ref w15), (.int (4 : Int32)), (.ref b2), (.ref b2)])) rfl rfl (hb hby at_34)
  have V_b2_17 : Arv Z h17 b2 k2 (.object "com/example/open_frontier/openfrontier/frontend/Expression$BinaryOperator") (18 : Int32) [(.ref w3), (.ref w6), (.ref w9), (.ref w12), (.ref w15), .null, .null, .null, .null, .null, .null, .null, .null, .null, .null, .null, .null, .null] .null := Arv.set Ar_b2_34 q_b2_34 S_b2_34 N_b2_34 H_b2_34 G_b2_34 rfl W17 4 rfl (Nat.le_of_ble_eq_true rfl)
  have K17 : Keep h0 h17 [] := K14.wr W17 (Or.inr sz_b2)
  have N17 := Fr.snoc X17 N14 g_b2
  obtain ⟨T19, X19, e19, st19⟩ := getS2 X17 hx hZ hown (host := "") (Or.inl (hw _ (List.mem_of_getElem? (i := 14) rfl))) Via.refl e17 (S_SHIFT_LEFT.ext (own_ext K17)) (g := (mkF m 37 #[.val (.int p1), .unset, .unset, .unset] [(.int (5 : Int32)), (.ref b2), (.ref b2)])) rfl (hb hby at_37)
  obtain ⟨cl_b2_40, Ar_b2_40, q_b2_40, S_b2_40, N_b2_40, H_b2_40, G_b2_40⟩ := id V_b2_17
  have hin40 : ¬ ((5 : Int32) < 0 ∨ cl_b2_40.slots.size ≤ ((5 : Int32)).toNatClampNeg) := inb_of S_b2_40 ⟨by decide, by decide⟩
  obtain ⟨T20, h20, X20, e20, W20, st20⟩ := stR X19 hx hZ e19 Ar_b2_40 (j := (5 : Int32)) hin40 rfl (Sto.ofV Ar_b2_40 q_b2_40 O2 (Ins.self (E_w18.ext (own_ext K17)))) (g := (mkF m 40 #[.val (.int p1), .unset, .unset, .unset] [(.ref w18), (.int (5 : Int32)), (.ref b2), (.ref b2)])) rfl rfl (hb hby at_40)
  have V_b2_20 : Arv Z h20 b2 k2 (.object "com/example/open_frontier/openfrontier/frontend/Expression$BinaryOperator") (18 : Int32) [(.ref w3), (.ref w6), (.ref w9), (.ref w12), (.ref w15), (.ref w18), .null, .null, .null, .null, .null, .null, .null, .null, .null, .null, .null, .null] .null := Arv.set Ar_b2_40 q_b2_40 S_b2_40 N_b2_40 H_b2_40 G_b2_40 rfl W20 5 rfl (Nat.le_of_ble_eq_true rfl)
  have K20 : Keep h0 h20 [] := K17.wr W20 (Or.inr sz_b2)
  have N20 := Fr.snoc X20 N17 g_b2
  obtain ⟨T22, X22, e22, st22⟩ := getS2 X20 hx hZ hown (host := "") (Or.inl (hw _ (List.mem_of_getElem? (i := 16) rfl))) Via.refl e20 (S_SHIFT_RIGHT.ext (own_ext K20)) (g := (mkF m 44 #[.val (.int p1), .unset, .unset, .unset] [(.int (6 : Int32)), (.ref b2), (.ref b2)])) rfl (hb hby at_44)
  obtain ⟨cl_b2_47, Ar_b2_47, q_b2_47, S_b2_47, N_b2_47, H_b2_47, G_b2_47⟩ := id V_b2_20
  have hin47 : ¬ ((6 : Int32) < 0 ∨ cl_b2_47.slots.size ≤ ((6 : Int32)).toNatClampNeg) := inb_of S_b2_47 ⟨by decide, by decide⟩
  obtain ⟨T23, h23, X23, e23, W23, st23⟩ := stR X22 hx hZ e22 Ar_b2_47 (j := (6 : Int32)) hin47 rfl (Sto.ofV Ar_b2_47 q_b2_47 O2 (Ins.self (E_w21.ext (own_ext K20)))) (g := (mkF m 47 #[.val (.int p1), .unset, .unset, .unset] [(.ref w21), (.int (6 : Int32)), (.ref b2), (.ref b2)])) rfl rfl (hb hby at_47)
  have V_b2_23 : Arv Z h23 b2 k2 (.object "com/example/open_frontier/openfrontier/frontend/Expression$BinaryOperator") (18 : Int32) [(.ref w3), (.ref w6), (.ref w9), (.ref w12), (.ref w15), (.ref w18), (.ref w21), .null, .null, .null, .null, .null, .null, .null, .null, .null, .null, .null] .null := Arv.set Ar_b2_47 q_b2_47 S_b2_47 N_b2_47 H_b2_47 G_b2_47 rfl W23 6 rfl (Nat.le_of_ble_eq_true rfl)
  have K23 : Keep h0 h23 [] := K20.wr W23 (Or.inr sz_b2)
  have N23 := Fr.snoc X23 N20 g_b2
  obtain ⟨T25, X25, e25, st25⟩ := getS2 X23 hx hZ hown (host := "") (Or.inl (hw _ (List.mem_of_getElem? (i := 18) rfl))) Via.refl e23 (S_LESS.ext (own_ext K23)) (g := (mkF m 51 #[.val (.int p1), .unset, .unset, .unset] [(.int (7 : Int32)), (.ref b2), (.ref b2)])) rfl (hb hby at_51)
  obtain ⟨cl_b2_54, Ar_b2_54, q_b2_54, S_b2_54, N_b2_54, H_b2_54, G_b2_54⟩ := id V_b2_23
  have hin54 : ¬ ((7 : Int32) < 0 ∨ cl_b2_54.slots.size ≤ ((7 : Int32)).toNatClampNeg) := inb_of S_b2_54 ⟨by decide, by decide⟩
  obtain ⟨T26, h26, X26, e26, W26, st26⟩ := stR X25 hx hZ e25 Ar_b2_54 (j := (7 : Int32)) hin54 rfl (Sto.ofV Ar_b2_54 q_b2_54 O2 (Ins.self (E_w24.ext (own_ext K23)))) (g := (mkF m 54 #[.val (.int p1), .unset, .unset, .unset] [(.ref w24), (.int (7 : Int32)), (.ref b2), (.ref b2)])) rfl rfl (hb hby at_54)
  have V_b2_26 : Arv Z h26 b2 k2 (.object "com/example/open_frontier/openfrontier/frontend/Expression$BinaryOperator") (18 : Int32) [(.ref w3), (.ref w6), (.ref w9), (.ref w12), (.ref w15), (.ref w18), (.ref w21), (.ref w24), .null, .null, .null, .null, .null, .null, .null, .null, .null, .null] .null := Arv.set Ar_b2_54 q_b2_54 S_b2_54 N_b2_54 H_b2_54 G_b2_54 rfl W26 7 rfl (Nat.le_of_ble_eq_true rfl)
  have K26 : Keep h0 h26 [] := K23.wr W26 (Or.inr sz_b2)
  have N26 := Fr.snoc X26 N23 g_b2
  obtain ⟨T28, X28, e28, st28⟩ := getS2 X26 hx hZ hown (host := "") (Or.inl (hw _ (List.mem_of_getElem? (i := 20) rfl))) Via.refl e26 (S_GREATER.ext (own_ext K26)) (g := (mkF m 58 #[.val (.int p1), .unset, .unset, .unset] [(.int (8 : Int32)), (.ref b2), (.ref b2)])) rfl (hb hby at_58)
  obtain ⟨cl_b2_61, Ar_b2_61, q_b2_61, S_b2_61, N_b2_61, H_b2_61, G_b2_61⟩ := id V_b2_26
  have hin61 : ¬ ((8 : Int32) < 0 ∨ cl_b2_61.slots.size ≤ ((8 : Int32)).toNatClampNeg) := inb_of S_b2_61 ⟨by decide, by decide⟩
  obtain ⟨T29, h29, X29, e29, W29, st29⟩ := stR X28 hx hZ e28 Ar_b2_61 (j := (8 : Int32)) hin61 rfl (Sto.ofV Ar_b2_61 q_b2_61 O2 (Ins.self (E_w27.ext (own_ext K26)))) (g := (mkF m 61 #[.val (.int p1), .unset, .unset, .unset] [(.ref w27), (.int (8 : Int32)), (.ref b2), (.ref b2)])) rfl rfl (hb hby at_61)
  have V_b2_29 : Arv Z h29 b2 k2 (.object "com/example/open_frontier/openfrontier/frontend/Expression$BinaryOperator") (18 : Int32) [(.ref w3), (.ref w6), (.ref w9), (.ref w12), (.ref w15), (.ref w18), (.ref w21), (.ref w24), (.ref w27), .null, .null, .null, .null, .null, .null, .null, .null, .null] .null := Arv.set Ar_b2_61 q_b2_61 S_b2_61 N_b2_61 H_b2_61 G_b2_61 rfl W29 8 rfl (Nat.le_of_ble_eq_true rfl)
  have K29 : Keep h0 h29 [] := K26.wr W29 (Or.inr sz_b2)
  have N29 := Fr.snoc X29 N26 g_b2
  obtain ⟨T31, X31, e31, st31⟩ := getS2 X29 hx hZ hown (host := "") (Or.inl (hw _ (List.mem_of_getElem? (i := 22) rfl))) Via.refl e29 (S_LESS_EQUAL.ext (own_ext K29)) (g := (mkF m 65 #[.val (.int p1), .unset, .unset, .unset] [(.int (9 : Int32)), (.ref b2), (.ref b2)])) rfl (hb hby at_65)
  obtain ⟨cl_b2_68, Ar_b2_68, q_b2_68, S_b2_68, N_b2_68, H_b2_68, G_b2_68⟩ := id V_b2_29
  have hin68 : ¬ ((9 : Int32) < 0 ∨ cl_b2_68.slots.size ≤ ((9 : Int32)).toNatClampNeg) := inb_of S_b2_68 ⟨by decide, by decide⟩
  obtain ⟨T32, h32, X32, e32, W32, st32⟩ := stR X31 hx hZ e31 Ar_b2_68 (j := (9 : Int32)) hin68 rfl (Sto.ofV Ar_b2_68 q_b2_68 O2 (Ins.self (E_w30.ext (own_ext K29)))) (g := (mkF m 68 #[.val (.int p1), .unset, .unset, .unset] [(.ref w30), (.int (9 : Int32)), (.ref b2), (.ref b2)])) rfl rfl (hb hby at_68)
  have V_b2_32 : Arv Z h32 b2 k2 (.object "com/example/open_frontier/openfrontier/frontend/Expression$BinaryOperator") (18 : Int32) [(.ref w3), (.ref w6), (.ref w9), (.ref w12), (.ref w15), (.ref w18), (.ref w21), (.ref w24), (.ref w27), (.ref w30), .null, .null, .null, .null, .null, .null, .null, .null] .null := Arv.set Ar_b2_68 q_b2_68 S_b2_68 N_b2_68 H_b2_68 G_b2_68 rfl W32 9 rfl (Nat.le_of_ble_eq_true rfl)
  have K32 : Keep h0 h32 [] := K29.wr W32 (Or.inr sz_b2)
  have N32 := Fr.snoc X32 N29 g_b2
  obtain ⟨T34, X34, e34, st34⟩ := getS2 X32 hx hZ hown (host := "") (Or.inl (hw _ (List.mem_of_getElem? (i := 24) rfl))) Via.refl e32 (S_GREATER_EQUAL.ext (own_ext K32)) (g := (mkF m 72 #[.val (.int p1), .unset, .unset, .unset] [(.int (10 : Int32)), (.ref b2), (.ref b2)])) rfl (hb hby at_72)
  obtain ⟨cl_b2_75, Ar_b2_75, q_b2_75, S_b2_75, N_b2_75, H_b2_75, G_b2_75⟩ := id V_b2_32
  have hin75 : ¬ ((10 : Int32) < 0 ∨ cl_b2_75.slots.size ≤ ((10 : Int32)).toNatClampNeg) := inb_of S_b2_75 ⟨by decide, by decide⟩
  obtain ⟨T35, h35, X35, e35, W35, st35⟩ := stR X34 hx hZ e34 Ar_b2_75 (j := (10 : Int32)) hin75 rfl (Sto.ofV Ar_b2_75 q_b2_75 O2 (Ins.self (E_w33.ext (own_ext K32)))) (g := (mkF m 75 #[.val (.int p1), .unset, .unset, .unset] [(.ref w33), (.int (10 : Int32)), (.ref b2), (.ref b2)])) rfl rfl (hb hby at_75)
  have V_b2_35 : Arv Z h35 b2 k2 (.object "com/example/open_frontier/openfrontier/frontend/Expression$BinaryOperator") (18 : Int32) [(.ref w3), (.ref w6), (.ref w9), (.ref w12), (.ref w15), (.ref w18), (.ref w21), (.ref w24), (.ref w27), (.ref w30), (.ref w33), .null, .null, .null, .null, .null, .null, .null] .null := Arv.set Ar_b2_75 q_b2_75 S_b2_75 N_b2_75 H_b2_75 G_b2_75 rfl W35 10 rfl (Nat.le_of_ble_eq_true rfl)
  have K35 : Keep h0 h35 [] := K32.wr W35 (Or.inr sz_b2)
  have N35 := Fr.snoc X35 N32 g_b2
  obtain ⟨T37, X37, e37, st37⟩ := getS2 X35 hx hZ hown (host := "") (Or.inl (hw _ (List.mem_of_getElem? (i := 26) rfl))) Via.refl e35 (S_EQUAL.ext (own_ext K35)) (g := (mkF m 79 #[.val (.int p1), .unset, .unset, .unset] [(.int (11 : Int32)), (.ref b2), (.ref b2)])) rfl (hb hby at_79)
  obtain ⟨cl_b2_82, Ar_b2_82, q_b2_82, S_b2_82, N_b2_82, H_b2_82, G_b2_82⟩ := id V_b2_35
  have hin82 : ¬ ((11 : Int32) < 0 ∨ cl_b2_82.slots.size ≤ ((11 : Int32)).toNatClampNeg) := inb_of S_b2_82 ⟨by decide, by decide⟩
  obtain ⟨T38, h38, X38, e38, W38, st38⟩ := stR X37 hx hZ e37 Ar_b2_82 (j := (11 : Int32)) hin82 rfl (Sto.ofV Ar_b2_82 q_b2_82 O2 (Ins.self (E_w36.ext (own_ext K35)))) (g := (mkF m 82 #[.val (.int p1), .unset, .unset, .unset] [(.ref w36), (.int (11 : Int32)), (.ref b2), (.ref b2)])) rfl rfl (hb hby at_82)
  have V_b2_38 : Arv Z h38 b2 k2 (.object "com/example/open_frontier/openfrontier/frontend/Expression$BinaryOperator") (18 : Int32) [(.ref w3), (.ref w6), (.ref w9), (.ref w12), (.ref w15), (.ref w18), (.ref w21), (.ref w24), (.ref w27), (.ref w30), (.ref w33), (.ref w36), .null, .null, .null, .null, .null, .null] .null := Arv.set Ar_b2_82 q_b2_82 S_b2_82 N_b2_82 H_b2_82 G_b2_82 rfl W38 11 rfl (Nat.le_of_ble_eq_true rfl)
  have K38 : Keep h0 h38 [] := K35.wr W38 (Or.inr sz_b2)
  have N38 := Fr.snoc X38 N35 g_b2
  obtain ⟨T40, X40, e40, st40⟩ := getS2 X38 hx hZ hown (host := "") (Or.inl (hw _ (List.mem_of_getElem? (i := 28) rfl))) Via.refl e38 (S_NOT_EQUAL.ext (own_ext K38)) (g := (mkF m 86 #[.val (.int p1), .unset, .unset, .unset] [(.int (12 : Int32)), (.ref b2), (.ref b2)])) rfl (hb hby at_86)
  obtain ⟨cl_b2_89, Ar_b2_89, q_b2_89, S_b2_89, N_b2_89, H_b2_89, G_b2_89⟩ := id V_b2_38
  have hin89 : ¬ ((12 : Int32) < 0 ∨ cl_b2_89.slots.size ≤ ((12 : Int32)).toNatClampNeg) := inb_of S_b2_89 ⟨by decide, by decide⟩
  obtain ⟨T41, h41, X41, e41, W41, st41⟩ := stR X40 hx hZ e40 Ar_b2_89 (j := (12 : Int32)) hin89 rfl (Sto.ofV Ar_b2_89 q_b2_89 O2 (Ins.self (E_w39.ext (own_ext K38)))) (g := (mkF m 89 #[.val (.int p1), .unset, .unset, .unset] [(.ref w39), (.int (12 : Int32)), (.ref b2), (.ref b2)])) rfl rfl (hb hby at_89)
  have V_b2_41 : Arv Z h41 b2 k2 (.object "com/example/open_frontier/openfrontier/frontend/Expression$BinaryOperator") (18 : Int32) [(.ref w3), (.ref w6), (.ref w9), (.ref w12), (.ref w15), (.ref w18), (.ref w21), (.ref w24), (.ref w27), (.ref w30), (.ref w33), (.ref w36), (.ref w39), .null, .null, .null, .null, .null] .null := Arv.set Ar_b2_89 q_b2_89 S_b2_89 N_b2_89 H_b2_89 G_b2_89 rfl W41 12 rfl (Nat.le_of_ble_eq_true rfl)
  have K41 : Keep h0 h41 [] := K38.wr W41 (Or.inr sz_b2)
  have N41 := Fr.snoc X41 N38 g_b2
  obtain ⟨T43, X43, e43, st43⟩ := getS2 X41 hx hZ hown (host := "") (Or.inl (hw _ (List.mem_of_getElem? (i := 30) rfl))) Via.refl e41 (S_BIT_AND.ext (own_ext K41)) (g := (mkF m 93 #[.val (.int p1), .unset, .unset, .unset] [(.int (13 : Int32)), (.ref b2), (.ref b2)])) rfl (hb hby at_93)
  obtain ⟨cl_b2_96, Ar_b2_96, q_b2_96, S_b2_96, N_b2_96, H_b2_96, G_b2_96⟩ := id V_b2_41
  have hin96 : ¬ ((13 : Int32) < 0 ∨ cl_b2_96.slots.size ≤ ((13 : Int32)).toNatClampNeg) := inb_of S_b2_96 ⟨by decide, by decide⟩
  obtain ⟨T44, h44, X44, e44, W44, st44⟩ := stR X43 hx hZ e43 Ar_b2_96 (j := (13 : Int32)) hin96 rfl (Sto.ofV Ar_b2_96 q_b2_96 O2 (Ins.self (E_w42.ext (own_ext K41)))) (g := (mkF m 96 #[.val (.int p1), .unset, .unset, .unset] [(.ref w42), (.int (13 : Int32)), (.ref b2), (.ref b2)])) rfl rfl (hb hby at_96)
  have V_b2_44 : Arv Z h44 b2 k2 (.object "com/example/open_frontier/openfrontier/frontend/Expression$BinaryOperator") (18 : Int32) [(.ref w3), (.ref w6), (.ref w9), (.ref w12), (.ref w15), (.ref w18), (.ref w21), (.ref w24), (.ref w27), (.ref w30), (.ref w33), (.ref w36), (.ref w39), (.ref w42), .null, .null, .null, .null] .null := Arv.set Ar_b2_96 q_b2_96 S_b2_96 N_b2_96 H_b2_96 G_b2_96 rfl W44 13 rfl (Nat.le_of_ble_eq_true rfl)
  have K44 : Keep h0 h44 [] := K41.wr W44 (Or.inr sz_b2)
  have N44 := Fr.snoc X44 N41 g_b2
  obtain ⟨T46, X46, e46, st46⟩ := getS2 X44 hx hZ hown (host := "") (Or.inl (hw _ (List.mem_of_getElem? (i := 32) rfl))) Via.refl e44 (S_BIT_XOR.ext (own_ext K44)) (g := (mkF m 100 #[.val (.int p1), .unset, .unset, .unset] [(.int (14 : Int32)), (.ref b2), (.ref b2)])) rfl (hb hby at_100)
  obtain ⟨cl_b2_103, Ar_b2_103, q_b2_103, S_b2_103, N_b2_103, H_b2_103, G_b2_103⟩ := id V_b2_44
  have hin103 : ¬ ((14 : Int32) < 0 ∨ cl_b2_103.slots.size ≤ ((14 : Int32)).toNatClampNeg) := inb_of S_b2_103 ⟨by decide, by decide⟩
  obtain ⟨T47, h47, X47, e47, W47, st47⟩ := stR X46 hx hZ e46 Ar_b2_103 (j := (14 : Int32)) hin103 rfl (Sto.ofV Ar_b2_103 q_b2_103 O2 (Ins.self (E_w45.ext (own_ext K44)))) (g := (mkF m 103 #[.val (.int p1), .unset, .unset, .unset] [(.ref w45), (.int (14 : Int32)), (.ref b2), (.ref b2)])) rfl rfl (hb hby at_103)
  have V_b2_47 : Arv Z h47 b2 k2 (.object "com/example/open_frontier/openfrontier/frontend/Expression$BinaryOperator") (18 : Int32) [(.ref w3), (.ref w6), (.ref w9), (.ref w12), (.ref w15), (.ref w18), (.ref w21), (.ref w24), (.ref w27), (.ref w30), (.ref w33), (.ref w36), (.ref w39), (.ref w42), (.ref w45), .null, .null, .null] .null := Arv.set Ar_b2_103 q_b2_103 S_b2_103 N_b2_103 H_b2_103 G_b2_103 rfl W47 14 rfl (Nat.le_of_ble_eq_true rfl)
  have K47 : Keep h0 h47 [] := K44.wr W47 (Or.inr sz_b2)
  have N47 := Fr.snoc X47 N44 g_b2
  obtain ⟨T49, X49, e49, st49⟩ := getS2 X47 hx hZ hown (host := "") (Or.inl (hw _ (List.mem_of_getElem? (i := 34) rfl))) Via.refl e47 (S_BIT_OR.ext (own_ext K47)) (g := (mkF m 107 #[.val (.int p1), .unset, .unset, .unset] [(.int (15 : Int32)), (.ref b2), (.ref b2)])) rfl (hb hby at_107)
  obtain ⟨cl_b2_110, Ar_b2_110, q_b2_110, S_b2_110, N_b2_110, H_b2_110, G_b2_110⟩ := id V_b2_47
  have hin110 : ¬ ((15 : Int32) < 0 ∨ cl_b2_110.slots.size ≤ ((15 : Int32)).toNatClampNeg) := inb_of S_b2_110 ⟨by decide, by decide⟩
  obtain ⟨T50, h50, X50, e50, W50, st50⟩ := stR X49 hx hZ e49 Ar_b2_110 (j := (15 : Int32)) hin110 rfl (Sto.ofV Ar_b2_110 q_b2_110 O2 (Ins.self (E_w48.ext (own_ext K47)))) (g := (mkF m 110 #[.val (.int p1), .unset, .unset, .unset] [(.ref w48), (.int (15 : Int32)), (.ref b2), (.ref b2)])) rfl rfl (hb hby at_110)
  have V_b2_50 : Arv Z h50 b2 k2 (.object "com/example/open_frontier/openfrontier/frontend/Expression$BinaryOperator") (18 : Int32) [(.ref w3), (.ref w6), (.ref w9), (.ref w12), (.ref w15), (.ref w18), (.ref w21), (.ref w24), (.ref w27), (.ref w30), (.ref w33), (.ref w36), (.ref w39), (.ref w42), (.ref w45), (.ref w48), .null, .null] .null := Arv.set Ar_b2_110 q_b2_110 S_b2_110 N_b2_110 H_b2_110 G_b2_110 rfl W50 15 rfl (Nat.le_of_ble_eq_true rfl)
  have K50 : Keep h0 h50 [] := K47.wr W50 (Or.inr sz_b2)
  have N50 := Fr.snoc X50 N47 g_b2
  obtain ⟨T52, X52, e52, st52⟩ := getS2 X50 hx hZ hown (host := "") (Or.inl (hw _ (List.mem_of_getElem? (i := 36) rfl))) Via.refl e50 (S_LOGICAL_AND.ext (own_ext K50)) (g := (mkF m 114 #[.val (.int p1), .unset, .unset, .unset] [(.int (16 : Int32)), (.ref b2), (.ref b2)])) rfl (hb hby at_114)
  obtain ⟨cl_b2_117, Ar_b2_117, q_b2_117, S_b2_117, N_b2_117, H_b2_117, G_b2_117⟩ := id V_b2_50
  have hin117 : ¬ ((16 : Int32) < 0 ∨ cl_b2_117.slots.size ≤ ((16 : Int32)).toNatClampNeg) := inb_of S_b2_117 ⟨by decide, by decide⟩
  obtain ⟨T53, h53, X53, e53, W53, st53⟩ := stR X52 hx hZ e52 Ar_b2_117 (j := (16 : Int32)) hin117 rfl (Sto.ofV Ar_b2_117 q_b2_117 O2 (Ins.self (E_w51.ext (own_ext K50)))) (g := (mkF m 117 #[.val (.int p1), .unset, .unset, .unset] [(.ref w51), (.int (16 : Int32)), (.ref b2), (.ref b2)])) rfl rfl (hb hby at_117)
  have V_b2_53 : Arv Z h53 b2 k2 (.object "com/example/open_frontier/openfrontier/frontend/Expression$BinaryOperator") (18 : Int32) [(.ref w3), (.ref w6), (.ref w9), (.ref w12), (.ref w15), (.ref w18), (.ref w21), (.ref w24), (.ref w27), (.ref w30), (.ref w33), (.ref w36), (.ref w39), (.ref w42), (.ref w45), (.ref w48), (.ref w51), .null] .null := Arv.set Ar_b2_117 q_b2_117 S_b2_117 N_b2_117 H_b2_117 G_b2_117 rfl W53 16 rfl (Nat.le_of_ble_eq_true rfl)
  have K53 : Keep h0 h53 [] := K50.wr W53 (Or.inr sz_b2)
  have N53 := Fr.snoc X53 N50 g_b2
  obtain ⟨T55, X55, e55, st55⟩ := getS2 X53 hx hZ hown (host := "") (Or.inl (hw _ (List.mem_of_getElem? (i := 38) rfl))) Via.refl e53 (S_LOGICAL_OR.ext (own_ext K53)) (g := (mkF m 121 #[.val (.int p1), .unset, .unset, .unset] [(.int (17 : Int32)), (.ref b2), (.ref b2)])) rfl (hb hby at_121)
  obtain ⟨cl_b2_124, Ar_b2_124, q_b2_124, S_b2_124, N_b2_124, H_b2_124, G_b2_124⟩ := id V_b2_53
  have hin124 : ¬ ((17 : Int32) < 0 ∨ cl_b2_124.slots.size ≤ ((17 : Int32)).toNatClampNeg) := inb_of S_b2_124 ⟨by decide, by decide⟩
  obtain ⟨T56, h56, X56, e56, W56, st56⟩ := stR X55 hx hZ e55 Ar_b2_124 (j := (17 : Int32)) hin124 rfl (Sto.ofV Ar_b2_124 q_b2_124 O2 (Ins.self (E_w54.ext (own_ext K53)))) (g := (mkF m 124 #[.val (.int p1), .unset, .unset, .unset] [(.ref w54), (.int (17 : Int32)), (.ref b2), (.ref b2)])) rfl rfl (hb hby at_124)
  have V_b2_56 : Arv Z h56 b2 k2 (.object "com/example/open_frontier/openfrontier/frontend/Expression$BinaryOperator") (18 : Int32) [(.ref w3), (.ref w6), (.ref w9), (.ref w12), (.ref w15), (.ref w18), (.ref w21), (.ref w24), (.ref w27), (.ref w30), (.ref w33), (.ref w36), (.ref w39), (.ref w42), (.ref w45), (.ref w48), (.ref w51), (.ref w54)] .null := Arv.set Ar_b2_124 q_b2_124 S_b2_124 N_b2_124 H_b2_124 G_b2_124 rfl W56 17 rfl (Nat.le_of_ble_eq_true rfl)
  have K56 : Keep h0 h56 [] := K53.wr W56 (Or.inr sz_b2)
  have N56 := Fr.snoc X56 N53 g_b2
  obtain ⟨cl_b2_153, Ar_b2_153, q_b2_153, S_b2_153, N_b2_153, H_b2_153, G_b2_153⟩ := id V_b2_56
  have hin153 : ¬ (((p1 &&& (2147483647 : Int32)) % (18 : Int32)) < 0 ∨ cl_b2_153.slots.size ≤ (((p1 &&& (2147483647 : Int32)) % (18 : Int32))).toNatClampNeg) := inb_of S_b2_153 hinb153
  have hat153 : cl_b2_153.slots[(((p1 &&& (2147483647 : Int32)) % (18 : Int32))).toNatClampNeg]? = some (.ref w57) := H_b2_153.at hin153 hval153
  -- pc 154: com/example/open_frontier/openfrontier/frontend/Expression$BinaryOperator.isShift by the contract of the body that the receiver's class selects, rm1
  obtain ⟨cq58, kq58, q58a, q58b, q58c⟩ := isOf hZ e56 (E_w57.ext (own_ext K56))
  obtain ⟨_, _, ⟨T58, L58, k58, n58⟩, -, X58, ⟨Lc58, hQ58, l58, y58, z58⟩, st58⟩ := X56.virtualBack hx (y := (⟨"com/example/open_frontier/openfrontier/frontend/Expression$BinaryOperator", "isShift", "()Z"⟩ : MethodName)) (z := (⟨"com/example/open_frontier/openfrontier/frontend/Expression$BinaryOperator", "isShift", "()Z"⟩ : MethodName)) hown (mvT hZ (hw _ (List.mem_of_getElem? (i := 41) rfl))) (mvT hZ (hw _ (List.mem_of_getElem? (i := 42) rfl))) (notFace_of_selects (args := #[]) (mvT hZ (hw _ (List.mem_of_getElem? (i := 44) rfl)))) (mvT hZ (hw _ (List.mem_of_getElem? (i := 44) rfl))) (mvT hZ (hw _ (List.mem_of_getElem? (i := 43) rfl))) (by decide) (backOf (W := 0) (rm1 l Z a0 hw [] w57 w18 w21 h56 n0 (Nat.le_trans (Nat.le_trans (Nat.le_trans (Nat.le_trans (Nat.le_trans (Nat.le_trans (Nat.le_trans (Nat.le_trans (Nat.le_trans (Nat.le_trans (Nat.le_trans (Nat.le_trans (Nat.le_trans (Nat.le_trans (Nat.le_trans (Nat.le_trans (Nat.le_trans (Nat.le_trans (Nat.le_trans Z0 E2.1) (Keep.of_wr W5).1) (Keep.of_wr W8).1) (Keep.of_wr W11).1) (Keep.of_wr W14).1) (Keep.of_wr W17).1) (Keep.of_wr W20).1) (Keep.of_wr W23).1) (Keep.of_wr W26).1) (Keep.of_wr W29).1) (Keep.of_wr W32).1) (Keep.of_wr W35).1) (Keep.of_wr W38).1) (Keep.of_wr W41).1) (Keep.of_wr W44).1) (Keep.of_wr W47).1) (Keep.of_wr W50).1) (Keep.of_wr W53).1) (Keep.of_wr W56).1) (S_SHIFT_LEFT.ext (own_ext K56)) (S_SHIFT_RIGHT.ext (own_ext K56)) (1 : Int32) hbb) hZ (hw _ (List.mem_of_getElem? (i := 45) rfl)) (hw _ (List.mem_of_getElem? (i := 3) rfl)) (by decide) (by decide)) q58a q58c (g := (mkF m 154 #[.val (.int p1), .val (.ref b2), .val (.int ((p1 &&& (2147483647 : Int32)) % (18 : Int32))), .val (.int (1 : Int32))] [(.ref w57)])) rfl (by rw [hml]; rfl) (Steps.refl _) (argsL := []) (rest := []) (lenOf pd_0_0 rfl) rfl (by show 2 * 0 + _ ≤ _; exact Nat.le_of_eq rfl) (hb hby at_154) (fun _ _ => ⟨rfl, e56, (by decide : 1 + 0 ≤ _), (by decide : 18 + 0 ≤ _)⟩)
  dsimp only [Pt.U, Pt.locs, Pt.cells, Pt.slots] at X58 l58 y58 z58 st58 hQ58
  subst l58 y58 z58
  obtain ⟨rfl, N58q, eq58⟩ := hQ58
  have N58 := Fr.app N56 N58q
  obtain ⟨fs, hr, hrun, hended, hW, hsame⟩ := X58.leave (v := some (.int (1 : Int32))) (fun h => by rw [Bd.returns] at h; cases h)
  refine ⟨_, _, pre0 _ ?_, hrun, hended, _, _, rfl, ?_, ⟨_, rfl⟩, hW, hsame.mono (by decide) (by decide)⟩
  · show Steps p.tables e below (s₁.setTop (mkF m 0 #[.val (.int p1), .unset, .unset, .unset] [])) _
    refine XS.bipush X0.here hx rfl (hb hby at_0) ?_
    show Steps p.tables e below (s₁.setTop (mkF m 2 #[.val (.int p1), .unset, .unset, .unset] [(.int (18 : Int32))])) _
    refine st2 _ ?_
    show Steps p.tables e below (T2.setTop (mkF m 5 #[.val (.int p1), .unset, .unset, .unset] [(.ref b2)])) _
    refine XS.dup X2.here hx rfl (hb hby at_5) rfl rfl ?_
    show Steps p.tables e below (T2.setTop (mkF m 6 #[.val (.int p1), .unset, .unset, .unset] [(.ref b2), (.ref b2)])) _
    refine XS.iconst X2.here hx rfl (hb hby at_6) ?_
    show Steps p.tables e below (T2.setTop (mkF m 7 #[.val (.int p1), .unset, .unset, .unset] [(.int (0 : Int32)), (.ref b2), (.ref b2)])) _
    refine st4 _ ?_
    show Steps p.tables e below (T4.setTop (mkF m 10 #[.val (.int p1), .unset, .unset, .unset] [(.ref w3), (.int (0 : Int32)), (.ref b2), (.ref b2)])) _
    refine st5 _ ?_
    show Steps p.tables e below (T5.setTop (mkF m 11 #[.val (.int p1), .unset, .unset, .unset] [(.ref b2)])) _
    refine XS.dup X5.here hx rfl (hb hby at_11) rfl rfl ?_
    show Steps p.tables e below (T5.setTop (mkF m 12 #[.val (.int p1), .unset, .unset, .unset] [(.ref b2), (.ref b2)])) _
    refine XS.iconst X5.here hx rfl (hb hby at_12) ?_
    show Steps p.tables e below (T5.setTop (mkF m 13 #[.val (.int p1), .unset, .unset, .unset] [(.int (1 : Int32)), (.ref b2), (.ref b2)])) _
    refine st7 _ ?_
    show Steps p.tables e below (T7.setTop (mkF m 16 #[.val (.int p1), .unset, .unset, .unset] [(.ref w6), (.int (1 : Int32)), (.ref b2), (.ref b2)])) _
    refine st8 _ ?_
    show Steps p.tables e below (T8.setTop (mkF m 17 #[.val (.int p1), .unset, .unset, .unset] [(.ref b2)])) _
    refine XS.dup X8.here hx rfl (hb hby at_17) rfl rfl ?_
    show Steps p.tables e below (T8.setTop (mkF m 18 #[.val (.int p1), .unset, .unset, .unset] [(.ref b2), (.ref b2)])) _
    refine XS.iconst X8.here hx rfl (hb hby at_18) ?_
    show Steps p.tables e below (T8.setTop (mkF m 19 #[.val (.int p1), .unset, .unset, .unset] [(.int (2 : Int32)), (.ref b2), (.ref b2)])) _
    refine st10 _ ?_
    show Steps p.tables e below (T10.setTop (mkF m 22 #[.val (.int p1), .unset, .unset, .unset] [(.ref w9), (.int (2 : Int32)), (.ref b2), (.ref b2)])) _
    refine st11 _ ?_
    show Steps p.tables e below (T11.setTop (mkF m 23 #[.val (.int p1), .unset, .unset, .unset] [(.ref b2)])) _
    refine XS.dup X11.here hx rfl (hb hby at_23) rfl rfl ?_
    show Steps p.tables e below (T11.setTop (mkF m 24 #[.val (.int p1), .unset, .unset, .unset] [(.ref b2), (.ref b2)])) _
    refine XS.iconst X11.here hx rfl (hb hby at_24) ?_
    show Steps p.tables e below (T11.setTop (mkF m 25 #[.val (.int p1), .unset, .unset, .unset] [(.int (3 : Int32)), (.ref b2), (.ref b2)])) _
    refine st13 _ ?_
    show Steps p.tables e below (T13.setTop (mkF m 28 #[.val (.int p1), .unset, .unset, .unset] [(.ref w12), (.int (3 : Int32)), (.ref b2), (.ref b2)])) _
    refine st14 _ ?_
    show Steps p.tables e below (T14.setTop (mkF m 29 #[.val (.int p1), .unset, .unset, .unset] [(.ref b2)])) _
    refine XS.dup X14.here hx rfl (hb hby at_29) rfl rfl ?_
    show Steps p.tables e below (T14.setTop (mkF m 30 #[.val (.int p1), .unset, .unset, .unset] [(.ref b2), (.ref b2)])) _
    refine XS.iconst X14.here hx rfl (hb hby at_30) ?_
    show Steps p.tables e below (T14.setTop (mkF m 31 #[.val (.int p1), .unset, .unset, .unset] [(.int (4 : Int32)), (.ref b2), (.ref b2)])) _
    refine st16 _ ?_
    show Steps p.tables e below (T16.setTop (mkF m 34 #[.val (.int p1), .unset, .unset, .unset] [(.ref w15), (.int (4 : Int32)), (.ref b2), (.ref b2)])) _
    refine st17 _ ?_
    show Steps p.tables e below (T17.setTop (mkF m 35 #[.val (.int p1), .unset, .unset, .unset] [(.ref b2)])) _
    refine XS.dup X17.here hx rfl (hb hby at_35) rfl rfl ?_
    show Steps p.tables e below (T17.setTop (mkF m 36 #[.val (.int p1), .unset, .unset, .unset] [(.ref b2), (.ref b2)])) _
    refine XS.iconst X17.here hx rfl (hb hby at_36) ?_
    show Steps p.tables e below (T17.setTop (mkF m 37 #[.val (.int p1), .unset, .unset, .unset] [(.int (5 : Int32)), (.ref b2), (.ref b2)])) _
    refine st19 _ ?_
    show Steps p.tables e below (T19.setTop (mkF m 40 #[.val (.int p1), .unset, .unset, .unset] [(.ref w18), (.int (5 : Int32)), (.ref b2), (.ref b2)])) _
    refine st20 _ ?_
    show Steps p.tables e below (T20.setTop (mkF m 41 #[.val (.int p1), .unset, .unset, .unset] [(.ref b2)])) _
    refine XS.dup X20.here hx rfl (hb hby at_41) rfl rfl ?_
    show Steps p.tables e below (T20.setTop (mkF m 42 #[.val (.int p1), .unset, .unset, .unset] [(.ref b2), (.ref b2)])) _
    refine XS.bipush X20.here hx rfl (hb hby at_42) ?_
    show Steps p.tables e below (T20.setTop (mkF m 44 #[.val (.int p1), .unset, .unset, .unset] [(.int (6 : Int32)), (.ref b2), (.ref b2)])) _
    refine st22 _ ?_
    show Steps p.tables e below (T22.setTop (mkF m 47 #[.val (.int p1), .unset, .unset, .unset] [(.ref w21), (.int (6 : Int32)), (.ref b2), (.ref b2)])) _
    refine st23 _ ?_
    show Steps p.tables e below (T23.setTop (mkF m 48 #[.val (.int p1), .unset, .unset, .unset] [(.ref b2)])) _
    refine XS.dup X23.here hx rfl (hb hby at_48) rfl rfl ?_
    show Steps p.tables e below (T23.setTop (mkF m 49 #[.val (.int p1), .unset, .unset, .unset] [(.ref b2), (.ref b2)])) _
    refine XS.bipush X23.here hx rfl (hb hby at_49) ?_
    show Steps p.tables e below (T23.setTop (mkF m 51 #[.val (.int p1), .unset, .unset, .unset] [(.int (7 : Int32)), (.ref b2), (.ref b2)])) _
    refine st25 _ ?_
    show Steps p.tables e below (T25.setTop (mkF m 54 #[.val (.int p1), .unset, .unset, .unset] [(.ref w24), (.int (7 : Int32)), (.ref b2), (.ref b2)])) _
    refine st26 _ ?_
    show Steps p.tables e below (T26.setTop (mkF m 55 #[.val (.int p1), .unset, .unset, .unset] [(.ref b2)])) _
    refine XS.dup X26.here hx rfl (hb hby at_55) rfl rfl ?_
    show Steps p.tables e below (T26.setTop (mkF m 56 #[.val (.int p1), .unset, .unset, .unset] [(.ref b2), (.ref b2)])) _
    refine XS.bipush X26.here hx rfl (hb hby at_56) ?_
    show Steps p.tables e below (T26.setTop (mkF m 58 #[.val (.int p1), .unset, .unset, .unset] [(.int (8 : Int32)), (.ref b2), (.ref b2)])) _
    refine st28 _ ?_
    show Steps p.tables e below (T28.setTop (mkF m 61 #[.val (.int p1), .unset, .unset, .unset] [(.ref w27), (.int (8 : Int32)), (.ref b2), (.ref b2)])) _
    refine st29 _ ?_
    show Steps p.tables e below (T29.setTop (mkF m 62 #[.val (.int p1), .unset, .unset, .unset] [(.ref b2)])) _
    refine XS.dup X29.here hx rfl (hb hby at_62) rfl rfl ?_
    show Steps p.tables e below (T29.setTop (mkF m 63 #[.val (.int p1), .unset, .unset, .unset] [(.ref b2), (.ref b2)])) _
    refine XS.bipush X29.here hx rfl (hb hby at_63) ?_
    show Steps p.tables e below (T29.setTop (mkF m 65 #[.val (.int p1), .unset, .unset, .unset] [(.int (9 : Int32)), (.ref b2), (.ref b2)])) _
    refine st31 _ ?_
    show Steps p.tables e below (T31.setTop (mkF m 68 #[.val (.int p1), .unset, .unset, .unset] [(.ref w30), (.int (9 : Int32)), (.ref b2), (.ref b2)])) _
    refine st32 _ ?_
    show Steps p.tables e below (T32.setTop (mkF m 69 #[.val (.int p1), .unset, .unset, .unset] [(.ref b2)])) _
    refine XS.dup X32.here hx rfl (hb hby at_69) rfl rfl ?_
    show Steps p.tables e below (T32.setTop (mkF m 70 #[.val (.int p1), .unset, .unset, .unset] [(.ref b2), (.ref b2)])) _
    refine XS.bipush X32.here hx rfl (hb hby at_70) ?_
    show Steps p.tables e below (T32.setTop (mkF m 72 #[.val (.int p1), .unset, .unset, .unset] [(.int (10 : Int32)), (.ref b2), (.ref b2)])) _
    refine st34 _ ?_
    show Steps p.tables e below (T34.setTop (mkF m 75 #[.val (.int p1), .unset, .unset, .unset] [(.ref w33), (.int (10 : Int32)), (.ref b2), (.ref b2)])) _
    refine st35 _ ?_
    show Steps p.tables e below (T35.setTop (mkF m 76 #[.val (.int p1), .unset, .unset, .unset] [(.ref b2)])) _
    refine XS.dup X35.here hx rfl (hb hby at_76) rfl rfl ?_
    show Steps p.tables e below (T35.setTop (mkF m 77 #[.val (.int p1), .unset, .unset, .unset] [(.ref b2), (.ref b2)])) _
    refine XS.bipush X35.here hx rfl (hb hby at_77) ?_
    show Steps p.tables e below (T35.setTop (mkF m 79 #[.val (.int p1), .unset, .unset, .unset] [(.int (11 : Int32)), (.ref b2), (.ref b2)])) _
    refine st37 _ ?_
    show Steps p.tables e below (T37.setTop (mkF m 82 #[.val (.int p1), .unset, .unset, .unset] [(.ref w36), (.int (11 : Int32)), (.ref b2), (.ref b2)])) _
    refine st38 _ ?_
    show Steps p.tables e below (T38.setTop (mkF m 83 #[.val (.int p1), .unset, .unset, .unset] [(.ref b2)])) _
    refine XS.dup X38.here hx rfl (hb hby at_83) rfl rfl ?_
    show Steps p.tables e below (T38.setTop (mkF m 84 #[.val (.int p1), .unset, .unset, .unset] [(.ref b2), (.ref b2)])) _
    refine XS.bipush X38.here hx rfl (hb hby at_84) ?_
    show Steps p.tables e below (T38.setTop (mkF m 86 #[.val (.int p1), .unset, .unset, .unset] [(.int (12 : Int32)), (.ref b2), (.ref b2)])) _
    refine st40 _ ?_
    show Steps p.tables e below (T40.setTop (mkF m 89 #[.val (.int p1), .unset, .unset, .unset] [(.ref w39), (.int (12 : Int32)), (.ref b2), (.ref b2)])) _
    refine st41 _ ?_
    show Steps p.tables e below (T41.setTop (mkF m 90 #[.val (.int p1), .unset, .unset, .unset] [(.ref b2)])) _
    refine XS.dup X41.here hx rfl (hb hby at_90) rfl rfl ?_
    show Steps p.tables e below (T41.setTop (mkF m 91 #[.val (.int p1), .unset, .unset, .unset] [(.ref b2), (.ref b2)])) _
    refine XS.bipush X41.here hx rfl (hb hby at_91) ?_
    show Steps p.tables e below (T41.setTop (mkF m 93 #[.val (.int p1), .unset, .unset, .unset] [(.int (13 : Int32)), (.ref b2), (.ref b2)])) _
    refine st43 _ ?_
    show Steps p.tables e below (T43.setTop (mkF m 96 #[.val (.int p1), .unset, .unset, .unset] [(.ref w42), (.int (13 : Int32)), (.ref b2), (.ref b2)])) _
    refine st44 _ ?_
    show Steps p.tables e below (T44.setTop (mkF m 97 #[.val (.int p1), .unset, .unset, .unset] [(.ref b2)])) _
    refine XS.dup X44.here hx rfl (hb hby at_97) rfl rfl ?_
    show Steps p.tables e below (T44.setTop (mkF m 98 #[.val (.int p1), .unset, .unset, .unset] [(.ref b2), (.ref b2)])) _
    refine XS.bipush X44.here hx rfl (hb hby at_98) ?_
    show Steps p.tables e below (T44.setTop (mkF m 100 #[.val (.int p1), .unset, .unset, .unset] [(.int (14 : Int32)), (.ref b2), (.ref b2)])) _
    refine st46 _ ?_
    show Steps p.tables e below (T46.setTop (mkF m 103 #[.val (.int p1), .unset, .unset, .unset] [(.ref w45), (.int (14 : Int32)), (.ref b2), (.ref b2)])) _
    refine st47 _ ?_
    show Steps p.tables e below (T47.setTop (mkF m 104 #[.val (.int p1), .unset, .unset, .unset] [(.ref b2)])) _
    refine XS.dup X47.here hx rfl (hb hby at_104) rfl rfl ?_
    show Steps p.tables e below (T47.setTop (mkF m 105 #[.val (.int p1), .unset, .unset, .unset] [(.ref b2), (.ref b2)])) _
    refine XS.bipush X47.here hx rfl (hb hby at_105) ?_
    show Steps p.tables e below (T47.setTop (mkF m 107 #[.val (.int p1), .unset, .unset, .unset] [(.int (15 : Int32)), (.ref b2), (.ref b2)])) _
    refine st49 _ ?_
    show Steps p.tables e below (T49.setTop (mkF m 110 #[.val (.int p1), .unset, .unset, .unset] [(.ref w48), (.int (15 : Int32)), (.ref b2), (.ref b2)])) _
    refine st50 _ ?_
    show Steps p.tables e below (T50.setTop (mkF m 111 #[.val (.int p1), .unset, .unset, .unset] [(.ref b2)])) _
    refine XS.dup X50.here hx rfl (hb hby at_111) rfl rfl ?_
    show Steps p.tables e below (T50.setTop (mkF m 112 #[.val (.int p1), .unset, .unset, .unset] [(.ref b2), (.ref b2)])) _
    refine XS.bipush X50.here hx rfl (hb hby at_112) ?_
    show Steps p.tables e below (T50.setTop (mkF m 114 #[.val (.int p1), .unset, .unset, .unset] [(.int (16 : Int32)), (.ref b2), (.ref b2)])) _
    refine st52 _ ?_
    show Steps p.tables e below (T52.setTop (mkF m 117 #[.val (.int p1), .unset, .unset, .unset] [(.ref w51), (.int (16 : Int32)), (.ref b2), (.ref b2)])) _
    refine st53 _ ?_
    show Steps p.tables e below (T53.setTop (mkF m 118 #[.val (.int p1), .unset, .unset, .unset] [(.ref b2)])) _
    refine XS.dup X53.here hx rfl (hb hby at_118) rfl rfl ?_
    show Steps p.tables e below (T53.setTop (mkF m 119 #[.val (.int p1), .unset, .unset, .unset] [(.ref b2), (.ref b2)])) _
    refine XS.bipush X53.here hx rfl (hb hby at_119) ?_
    show Steps p.tables e below (T53.setTop (mkF m 121 #[.val (.int p1), .unset, .unset, .unset] [(.int (17 : Int32)), (.ref b2), (.ref b2)])) _
    refine st55 _ ?_
    show Steps p.tables e below (T55.setTop (mkF m 124 #[.val (.int p1), .unset, .unset, .unset] [(.ref w54), (.int (17 : Int32)), (.ref b2), (.ref b2)])) _
    refine st56 _ ?_
    show Steps p.tables e below (T56.setTop (mkF m 125 #[.val (.int p1), .unset, .unset, .unset] [(.ref b2)])) _
    refine XS.astoreN X56.here hx rfl (hb hby at_125) rfl rfl (l' := #[.val (.int p1), .val (.ref b2), .unset, .unset]) rfl ?_
    show Steps p.tables e below (T56.setTop (mkF m 126 #[.val (.int p1), .val (.ref b2), .unset, .unset] [])) _
    refine XS.iloadN X56.here hx rfl (hb hby at_126) rfl ?_
    show Steps p.tables e below (T56.setTop (mkF m 127 #[.val (.int p1), .val (.ref b2), .unset, .unset] [(.int p1)])) _
    refine ldcI X56 hx hown (mvT hZ (hw _ (List.mem_of_getElem? (i := 40) rfl))) rfl (hb hby at_127) ?_
    show Steps p.tables e below (T56.setTop (mkF m 129 #[.val (.int p1), .val (.ref b2), .unset, .unset] [(.int (2147483647 : Int32)), (.int p1)])) _
    refine XS.iand X56.here hx rfl (hb hby at_129) rfl ?_
    show Steps p.tables e below (T56.setTop (mkF m 130 #[.val (.int p1), .val (.ref b2), .unset, .unset] [(.int (p1 &&& (2147483647 : Int32)))])) _
    refine XS.bipush X56.here hx rfl (hb hby at_130) ?_
    show Steps p.tables e below (T56.setTop (mkF m 132 #[.val (.int p1), .val (.ref b2), .unset, .unset] [(.int (18 : Int32)), (.int (p1 &&& (2147483647 : Int32)))])) _
    refine iremM X56 hx rfl (hb hby at_132) rfl (by decide) ?_
    show Steps p.tables e below (T56.setTop (mkF m 133 #[.val (.int p1), .val (.ref b2), .unset, .unset] [(.int ((p1 &&& (2147483647 : Int32)) % (18 : Int32)))])) _
    refine XS.istoreN X56.here hx rfl (hb hby at_133) rfl (l' := #[.val (.int p1), .val (.ref b2), .val (.int ((p1 &&& (2147483647 : Int32)) % (18 : Int32))), .unset]) rfl ?_
    show Steps p.tables e below (T56.setTop (mkF m 134 #[.val (.int p1), .val (.ref b2), .val (.int ((p1 &&& (2147483647 : Int32)) % (18 : Int32))), .unset] [])) _
    refine XS.iloadN X56.here hx rfl (hb hby at_134) rfl ?_
    show Steps p.tables e below (T56.setTop (mkF m 135 #[.val (.int p1), .val (.ref b2), .val (.int ((p1 &&& (2147483647 : Int32)) % (18 : Int32))), .unset] [(.int ((p1 &&& (2147483647 : Int32)) % (18 : Int32)))])) _
    refine XS.iconst X56.here hx rfl (hb hby at_135) ?_
    show Steps p.tables e below (T56.setTop (mkF m 136 #[.val (.int p1), .val (.ref b2), .val (.int ((p1 &&& (2147483647 : Int32)) % (18 : Int32))), .unset] [(.int (5 : Int32)), (.int ((p1 &&& (2147483647 : Int32)) % (18 : Int32)))])) _
    refine XS.icmpNo X56.here hx rfl (hb hby at_136) rfl (feq hc136).1 ?_
    show Steps p.tables e below (T56.setTop (mkF m 139 #[.val (.int p1), .val (.ref b2), .val (.int ((p1 &&& (2147483647 : Int32)) % (18 : Int32))), .unset] [])) _
    refine XS.iloadN X56.here hx rfl (hb hby at_139) rfl ?_
    show Steps p.tables e below (T56.setTop (mkF m 140 #[.val (.int p1), .val (.ref b2), .val (.int ((p1 &&& (2147483647 : Int32)) % (18 : Int32))), .unset] [(.int ((p1 &&& (2147483647 : Int32)) % (18 : Int32)))])) _
    refine XS.bipush X56.here hx rfl (hb hby at_140) ?_
    show Steps p.tables e below (T56.setTop (mkF m 142 #[.val (.int p1), .val (.ref b2), .val (.int ((p1 &&& (2147483647 : Int32)) % (18 : Int32))), .unset] [(.int (6 : Int32)), (.int ((p1 &&& (2147483647 : Int32)) % (18 : Int32)))])) _
    refine XS.icmpNo X56.here hx rfl (hb hby at_142) rfl (teq hc142).2 ?_
    show Steps p.tables e below (T56.setTop (mkF m 145 #[.val (.int p1), .val (.ref b2), .val (.int ((p1 &&& (2147483647 : Int32)) % (18 : Int32))), .unset] [])) _
    refine XS.iconst X56.here hx rfl (hb hby at_145) ?_
    show Steps p.tables e below (T56.setTop (mkF m 146 #[.val (.int p1), .val (.ref b2), .val (.int ((p1 &&& (2147483647 : Int32)) % (18 : Int32))), .unset] [(.int (1 : Int32))])) _
    refine XS.goto X56.here hx rfl (pc0 := 146) (pc' := 150) rfl (hb hby at_146) (by decide) (by decide) ?_
    show Steps p.tables e below (T56.setTop (mkF m 150 #[.val (.int p1), .val (.ref b2), .val (.int ((p1 &&& (2147483647 : Int32)) % (18 : Int32))), .unset] [(.int (1 : Int32))])) _
    refine XS.istoreN X56.here hx rfl (hb hby at_150) rfl (l' := #[.val (.int p1), .val (.ref b2), .val (.int ((p1 &&& (2147483647 : Int32)) % (18 : Int32))), .val (.int (1 : Int32))]) rfl ?_
    show Steps p.tables e below (T56.setTop (mkF m 151 #[.val (.int p1), .val (.ref b2), .val (.int ((p1 &&& (2147483647 : Int32)) % (18 : Int32))), .val (.int (1 : Int32))] [])) _
    refine XS.aloadN X56.here hx rfl (hb hby at_151) rfl rfl ?_
    show Steps p.tables e below (T56.setTop (mkF m 152 #[.val (.int p1), .val (.ref b2), .val (.int ((p1 &&& (2147483647 : Int32)) % (18 : Int32))), .val (.int (1 : Int32))] [(.ref b2)])) _
    refine XS.iloadN X56.here hx rfl (hb hby at_152) rfl ?_
    show Steps p.tables e below (T56.setTop (mkF m 153 #[.val (.int p1), .val (.ref b2), .val (.int ((p1 &&& (2147483647 : Int32)) % (18 : Int32))), .val (.int (1 : Int32))] [(.int ((p1 &&& (2147483647 : Int32)) % (18 : Int32))), (.ref b2)])) _
    refine X56.aaload hx (j := ((p1 &&& (2147483647 : Int32)) % (18 : Int32))) (v := (.ref w57)) (by rw [e56]; exact Ar_b2_153.1) (State.isArrayOf_alike hZ.alike Ar_b2_153.2.1) rfl Ar_b2_153.2.2 hin153 hat153 (g := (mkF m 153 #[.val (.int p1), .val (.ref b2), .val (.int ((p1 &&& (2147483647 : Int32)) % (18 : Int32))), .val (.int (1 : Int32))] [(.int ((p1 &&& (2147483647 : Int32)) % (18 : Int32))), (.ref b2)])) rfl rfl (hb hby at_153) _ ?_
    show Steps p.tables e below (T56.setTop (mkF m 154 #[.val (.int p1), .val (.ref b2), .val (.int ((p1 &&& (2147483647 : Int32)) % (18 : Int32))), .val (.int (1 : Int32))] [(.ref w57)])) _
    refine st58.trans ?_
    show Steps p.tables e below (T58.setTop (mkF m 157 #[.val (.int p1), .val (.ref b2), .val (.int ((p1 &&& (2147483647 : Int32)) % (18 : Int32))), .val (.int (1 : Int32))] [(.int (1 : Int32))])) _
    refine XS.iloadN X58.here hx rfl (hb hby at_157) rfl ?_
    show Steps p.tables e below (T58.setTop (mkF m 158 #[.val (.int p1), .val (.ref b2), .val (.int ((p1 &&& (2147483647 : Int32)) % (18 : Int32))), .val (.int (1 : Int32))] [(.int (1 : Int32)), (.int (1 : Int32))])) _
    refine XS.icmpNo X58.here hx rfl (hb hby at_158) rfl (teq (rfl : (1 : Int32) = (1 : Int32))).2 ?_
    show Steps p.tables e below (T58.setTop (mkF m 161 #[.val (.int p1), .val (.ref b2), .val (.int ((p1 &&& (2147483647 : Int32)) % (18 : Int32))), .val (.int (1 : Int32))] [])) _
    refine XS.iconst X58.here hx rfl (hb hby at_161) ?_
    show Steps p.tables e below (T58.setTop (mkF m 162 #[.val (.int p1), .val (.ref b2), .val (.int ((p1 &&& (2147483647 : Int32)) % (18 : Int32))), .val (.int (1 : Int32))] [(.int (1 : Int32))])) _
    refine XS.goto X58.here hx rfl (pc0 := 162) (pc' := 166) rfl (hb hby at_162) (by decide) (by decide) ?_
    show Steps p.tables e below (T58.setTop (mkF m 166 #[.val (.int p1), .val (.ref b2), .val (.int ((p1 &&& (2147483647 : Int32)) % (18 : Int32))), .val (.int (1 : Int32))] [(.int (1 : Int32))])) _
    exact retN X58 hx (t := .boolean) Bd.returns (by simp) (hb hby at_166) hr
  · show Q0 n0 _ T58.heap _
    rw [eq58]
    exact ⟨rfl, N58⟩

set_option maxRecDepth 65536 in
set_option maxHeartbeats 40000000 in
theorem rm0_2 (l : Launch) (Z : State) (a0 : Array Value) (hw : ∀ d ∈ tables_1, d.before a0 Z = true) (ws : List Jvm.Cond) (p1 : Int32) (w3 : Addr) (w6 : Addr) (w9 : Addr) (w12 : Addr) (w15 : Addr) (w18 : Addr) (w21 : Addr) (w24 : Addr) (w27 : Addr) (w30 : Addr) (w33 : Addr) (w36 : Addr) (w39 : Addr) (w42 : Addr) (w45 : Addr) (w48 : Addr) (w51 : Addr) (w54 : Addr) (w57 : Addr) (h0 : Heap) (n0 : Nat) (Z0 : n0 ≤ h0.size) (S_MULTIPLY : Sta Z h0 "com/example/open_frontier/openfrontier/frontend/Expression$BinaryOperator" "MULTIPLY" "Lcom/example/open_frontier/openfrontier/frontend/Expression$BinaryOperator;" (.ref w3)) (E_w3 : Exa Z h0 w3 "com/example/open_frontier/openfrontier/frontend/Expression$BinaryOperator") (S_DIVIDE : Sta Z h0 "com/example/open_frontier/openfrontier/frontend/Expression$BinaryOperator" "DIVIDE" "Lcom/example/open_frontier/openfrontier/frontend/Expression$BinaryOperator;" (.ref w6)) (E_w6 : Exa Z h0 w6 "com/example/open_frontier/openfrontier/frontend/Expression$BinaryOperator") (S_REMAINDER : Sta Z h0 "com/example/open_frontier/openfrontier/frontend/Expression$BinaryOperator" "REMAINDER" "Lcom/example/open_frontier/openfrontier/frontend/Expression$BinaryOperator;" (.ref w9)) (E_w9 : Exa Z h0 w9 "com/example/open_frontier/openfrontier/frontend/Expression$BinaryOperator") (S_ADD : Sta Z h0 "com/example/open_frontier/openfrontier/frontend/Expression$BinaryOperator" "ADD" "Lcom/example/open_frontier/openfrontier/frontend/Expression$BinaryOperator;" (.ref w12)) (E_w12 : Exa Z h0 w12 "com/example/open_frontier/openfrontier/frontend/Expression$BinaryOperator") (S_SUBTRACT : Sta Z h0 "com/example/open_frontier/openfrontier/frontend/Expression$BinaryOperator" "SUBTRACT" "Lcom/example/open_frontier/openfrontier/frontend/Expression$BinaryOperator;" (.ref w15)) (E_w15 : Exa Z h0 w15 "com/example/open_frontier/openfrontier/frontend/Expression$BinaryOperator") (S_SHIFT_LEFT : Sta Z h0 "com/example/open_frontier/openfrontier/frontend/Expression$BinaryOperator" "SHIFT_LEFT" "Lcom/example/open_frontier/openfrontier/frontend/Expression$BinaryOperator;" (.ref w18)) (E_w18 : Exa Z h0 w18 "com/example/open_frontier/openfrontier/frontend/Expression$BinaryOperator") (S_SHIFT_RIGHT : Sta Z h0 "com/example/open_frontier/openfrontier/frontend/Expression$BinaryOperator" "SHIFT_RIGHT" "Lcom/example/open_frontier/openfrontier/frontend/Expression$BinaryOperator;" (.ref w21)) (E_w21 : Exa Z h0 w21 "com/example/open_frontier/openfrontier/frontend/Expression$BinaryOperator") (S_LESS : Sta Z h0 "com/example/open_frontier/openfrontier/frontend/Expression$BinaryOperator" "LESS" "Lcom/example/open_frontier/openfrontier/frontend/Expression$BinaryOperator;" (.ref w24)) (E_w24 : Exa Z h0 w24 "com/example/open_frontier/openfrontier/frontend/Expression$BinaryOperator") (S_GREATER : Sta Z h0 "com/example/open_frontier/openfrontier/frontend/Expression$BinaryOperator" "GREATER" "Lcom/example/open_frontier/openfrontier/frontend/Expression$BinaryOperator;" (.ref w27)) (E_w27 : Exa Z h0 w27 "com/example/open_frontier/openfrontier/frontend/Expression$BinaryOperator") (S_LESS_EQUAL : Sta Z h0 "com/example/open_frontier/openfrontier/frontend/Expression$BinaryOperator" "LESS_EQUAL" "Lcom/example/open_frontier/openfrontier/frontend/Expression$BinaryOperator;" (.ref w30)) (E_w30 : Exa Z h0 w30 "com/example/open_frontier/openfrontier/frontend/Expression$BinaryOperator") (S_GREATER_EQUAL : Sta Z h0 "com/example/open_frontier/openfrontier/frontend/Expression$BinaryOperator" "GREATER_EQUAL" "Lcom/example/open_frontier/openfrontier/frontend/Expression$BinaryOperator;" (.ref w33)) (E_w33 : Exa Z h0 w33 "com/example/open_frontier/openfrontier/frontend/Expression$BinaryOperator") (S_EQUAL : Sta Z h0 "com/example/open_frontier/openfrontier/frontend/Expression$BinaryOperator" "EQUAL" "Lcom/example/open_frontier/openfrontier/frontend/Expression$BinaryOperator;" (.ref w36)) (E_w36 : Exa Z h0 w36 "com/example/open_frontier/openfrontier/frontend/Expression$BinaryOperator") (S_NOT_EQUAL : Sta Z h0 "com/example/open_frontier/openfrontier/frontend/Expression$BinaryOperator" "NOT_EQUAL" "Lcom/example/open_frontier/openfrontier/frontend/Expression$BinaryOperator;" (.ref w39)) (E_w39 : Exa Z h0 w39 "com/example/open_frontier/openfrontier/frontend/Expression$BinaryOperator") (S_BIT_AND : Sta Z h0 "com/example/open_frontier/openfrontier/frontend/Expression$BinaryOperator" "BIT_AND" "Lcom/example/open_frontier/openfrontier/frontend/Expression$BinaryOperator;" (.ref w42)) (E_w42 : Exa Z h0 w42 "com/example/open_frontier/openfrontier/frontend/Expression$BinaryOperator") (S_BIT_XOR : Sta Z h0 "com/example/open_frontier/openfrontier/frontend/Expression$BinaryOperator" "BIT_XOR" "Lcom/example/open_frontier/openfrontier/frontend/Expression$BinaryOperator;" (.ref w45)) (E_w45 : Exa Z h0 w45 "com/example/open_frontier/openfrontier/frontend/Expression$BinaryOperator") (S_BIT_OR : Sta Z h0 "com/example/open_frontier/openfrontier/frontend/Expression$BinaryOperator" "BIT_OR" "Lcom/example/open_frontier/openfrontier/frontend/Expression$BinaryOperator;" (.ref w48)) (E_w48 : Exa Z h0 w48 "com/example/open_frontier/openfrontier/frontend/Expression$BinaryOperator") (S_LOGICAL_AND : Sta Z h0 "com/example/open_frontier/openfrontier/frontend/Expression$BinaryOperator" "LOGICAL_AND" "Lcom/example/open_frontier/openfrontier/frontend/Expression$BinaryOperator;" (.ref w51)) (E_w51 : Exa Z h0 w51 "com/example/open_frontier/openfrontier/frontend/Expression$BinaryOperator") (S_LOGICAL_OR : Sta Z h0 "com/example/open_frontier/openfrontier/frontend/Expression$BinaryOperator" "LOGICAL_OR" "Lcom/example/open_frontier/openfrontier/frontend/Expression$BinaryOperator;" (.ref w54)) (E_w54 : Exa Z h0 w54 "com/example/open_frontier/openfrontier/frontend/Expression$BinaryOperator") (hinb153 : ¬ ((p1 &&& (2147483647 : Int32)) % (18 : Int32)) < 0 ∧ ((p1 &&& (2147483647 : Int32)) % (18 : Int32)) < (18 : Int32)) (hval153 : (([.ref w3, .ref w6, .ref w9, .ref w12, .ref w15, .ref w18, .ref w21, .ref w24, .ref w27, .ref w30, .ref w33, .ref w36, .ref w39, .ref w42, .ref w45, .ref w48, .ref w51, .ref w54] : List Value)).getD (((p1 &&& (2147483647 : Int32)) % (18 : Int32))).toNatClampNeg .null = (.ref w57)) (E_w57 : Exa Z h0 w57 "com/example/open_frontier/openfrontier/frontend/Expression$BinaryOperator") (hbb : (((0 : Int32) = 1 ∧ (w57 = w18 ∨ w57 = w21)) ∨ ((0 : Int32) = 0 ∧ ¬ w57 = w18 ∧ ¬ w57 = w21))) (hc136 : ¬ (((p1 &&& (2147483647 : Int32)) % (18 : Int32)) = (5 : Int32))) (hc142 : ¬ (((p1 &&& (2147483647 : Int32)) % (18 : Int32)) = (6 : Int32))) :
    MetFree l x (head1 (Jvm.Cond.code x code maxLocals ret :: ws) room_1) (fun a U => a = #[(.int p1)] ∧ Z.Warmed39 U.vm ∧ U.heap = h0) (fun _ _ _ _ _ => True) (fun _ U o U' => ∃ v L, o = .returned v ∧ Q0 n0 v U'.heap L ∧ FrameEnd U o U' L room_1.cells room_1.slots) := by
  refine MetFree.of_bodySF (plainFor_of_name pn_0) hisR ?_
  intro p e s m args below meth c s₁ Bd hml0 hP hK
  obtain ⟨rfl, hZ, hh⟩ := hP
  have hx := Bd.exec
  have hby := Bd.bytes
  have hml : c.maxLocals = 4 := hml0
  have hown : s.vm.findClass "com/example/open_frontier/openfrontier/frontend/BinaryOperatorIsShiftPinLaw" = some m.cls := findClass_of_methodNamed Bd.named
  have hnm := (name_of_methodNamed Bd.named Bd.method).1
  have X0 : Stand p l e room_1 s m #[(.int p1)] below meth c s₁ [] 0 0 := Stand.of_body Bd
  have e0 : s₁.heap = h0 := by rw [← hh, Bd.state]; rfl
  have N0 := Fr.nil n0
  have pre0 : ∀ t, Steps p.tables e below (s₁.setTop (mkF m 0 #[.val (.int p1), .unset, .unset, .unset] [])) t → Steps p.tables e below (s₁.setTop (entryFrame m #[(.int p1)] maxLocals)) t := fun t k => castTop (ef_0 m p1) k
  obtain ⟨T2, h2, k2, X2, e2, E2, A2, O2, st2⟩ := newR X0 hx hZ hown (hw _ (List.mem_of_getElem? (i := 0) rfl)) (hw _ (List.mem_of_getElem? (i := 1) rfl)) e0 (g := (mkF m 2 #[.val (.int p1), .unset, .unset, .unset] [(.int (18 : Int32))])) rfl (hb hby at_2) rfl (by decide) (cap := 18) (by decide) (by decide) (by decide) (by decide)
  obtain ⟨b2, g2⟩ : ∃ z, z = h0.size := ⟨_, rfl⟩      -- the fresh array's address
  rw [← g2] at A2 st2
  have V_b2 : Arv Z h2 b2 k2 (.object "com/example/open_frontier/openfrontier/frontend/Expression$BinaryOperator") (18 : Int32) [.null, .null, .null, .null, .null, .null, .null, .null, .null, .null, .null, .null, .null, .null, .null, .null, .null, .null] .null := (Arv.new A2 (by decide)).pad (pad_rep [] .null 18)
  have g_b2 : n0 ≤ b2 := Nat.le_trans Z0 (Nat.le_of_eq g2.symm)
  have sz_b2 : h0.size ≤ b2 := (Nat.le_trans (Keep.refl h0 []).1 (Nat.le_of_eq g2.symm))
  have K2 : Keep h0 h2 [] := (Keep.refl h0 []).ext E2
  obtain ⟨T4, X4, e4, st4⟩ := getS2 X2 hx hZ hown (host := "") (Or.inl (hw _ (List.mem_of_getElem? (i := 2) rfl))) Via.refl e2 (S_MULTIPLY.ext (own_ext K2)) (g := (mkF m 7 #[.val (.int p1), .unset, .unset, .unset] [(.int (0 : Int32)), (.ref b2), (.ref b2)])) rfl (hb hby at_7)
  obtain ⟨cl_b2_10, Ar_b2_10, q_b2_10, S_b2_10, N_b2_10, H_b2_10, G_b2_10⟩ := id V_b2
  have hin10 : ¬ ((0 : Int32) < 0 ∨ cl_b2_10.slots.size ≤ ((0 : Int32)).toNatClampNeg) := inb_of S_b2_10 ⟨by decide, by decide⟩
  obtain ⟨T5, h5, X5, e5, W5, st5⟩ := stR X4 hx hZ e4 Ar_b2_10 (j := (0 : Int32)) hin10 rfl (Sto.ofV Ar_b2_10 q_b2_10 O2 (Ins.self (E_w3.ext (own_ext K2)))) (g := (mkF m 10 #[.val (.int p1), .unset, .unset, .unset] [(.ref w3), (.int (0 : Int32)), (.ref b2), (.ref b2)])) rfl rfl (hb hby at_10)
  have V_b2_5 : Arv Z h5 b2 k2 (.object "com/example/open_frontier/openfrontier/frontend/Expression$BinaryOperator") (18 : Int32) [(.ref w3), .null, .null, .null, .null, .null, .null, .null, .null, .null, .null, .null, .null, .null, .null, .null, .null, .null] .null := Arv.set Ar_b2_10 q_b2_10 S_b2_10 N_b2_10 H_b2_10 G_b2_10 rfl W5 0 rfl (Nat.le_of_ble_eq_true rfl)
  have K5 : Keep h0 h5 [] := K2.wr W5 (Or.inr sz_b2)
  have N5 := Fr.snoc X5 N0 g_b2
  obtain ⟨T7, X7, e7, st7⟩ := getS2 X5 hx hZ hown (host := "") (Or.inl (hw _ (List.mem_of_getElem? (i := 6) rfl))) Via.refl e5 (S_DIVIDE.ext (own_ext K5)) (g := (mkF m 13 #[.val (.int p1), .unset, .unset, .unset] [(.int (1 : Int32)), (.ref b2), (.ref b2)])) rfl (hb hby at_13)
  obtain ⟨cl_b2_16, Ar_b2_16, q_b2_16, S_b2_16, N_b2_16, H_b2_16, G_b2_16⟩ := id V_b2_5
  have hin16 : ¬ ((1 : Int32) < 0 ∨ cl_b2_16.slots.size ≤ ((1 : Int32)).toNatClampNeg) := inb_of S_b2_16 ⟨by decide, by decide⟩
  obtain ⟨T8, h8, X8, e8, W8, st8⟩ := stR X7 hx hZ e7 Ar_b2_16 (j := (1 : Int32)) hin16 rfl (Sto.ofV Ar_b2_16 q_b2_16 O2 (Ins.self (E_w6.ext (own_ext K5)))) (g := (mkF m 16 #[.val (.int p1), .unset, .unset, .unset] [(.ref w6), (.int (1 : Int32)), (.ref b2), (.ref b2)])) rfl rfl (hb hby at_16)
  have V_b2_8 : Arv Z h8 b2 k2 (.object "com/example/open_frontier/openfrontier/frontend/Expression$BinaryOperator") (18 : Int32) [(.ref w3), (.ref w6), .null, .null, .null, .null, .null, .null, .null, .null, .null, .null, .null, .null, .null, .null, .null, .null] .null := Arv.set Ar_b2_16 q_b2_16 S_b2_16 N_b2_16 H_b2_16 G_b2_16 rfl W8 1 rfl (Nat.le_of_ble_eq_true rfl)
  have K8 : Keep h0 h8 [] := K5.wr W8 (Or.inr sz_b2)
  have N8 := Fr.snoc X8 N5 g_b2
  obtain ⟨T10, X10, e10, st10⟩ := getS2 X8 hx hZ hown (host := "") (Or.inl (hw _ (List.mem_of_getElem? (i := 8) rfl))) Via.refl e8 (S_REMAINDER.ext (own_ext K8)) (g := (mkF m 19 #[.val (.int p1), .unset, .unset, .unset] [(.int (2 : Int32)), (.ref b2), (.ref b2)])) rfl (hb hby at_19)
  obtain ⟨cl_b2_22, Ar_b2_22, q_b2_22, S_b2_22, N_b2_22, H_b2_22, G_b2_22⟩ := id V_b2_8
  have hin22 : ¬ ((2 : Int32) < 0 ∨ cl_b2_22.slots.size ≤ ((2 : Int32)).toNatClampNeg) := inb_of S_b2_22 ⟨by decide, by decide⟩
  obtain ⟨T11, h11, X11, e11, W11, st11⟩ := stR X10 hx hZ e10 Ar_b2_22 (j := (2 : Int32)) hin22 rfl (Sto.ofV Ar_b2_22 q_b2_22 O2 (Ins.self (E_w9.ext (own_ext K8)))) (g := (mkF m 22 #[.val (.int p1), .unset, .unset, .unset] [(.ref w9), (.int (2 : Int32)), (.ref b2), (.ref b2)])) rfl rfl (hb hby at_22)
  have V_b2_11 : Arv Z h11 b2 k2 (.object "com/example/open_frontier/openfrontier/frontend/Expression$BinaryOperator") (18 : Int32) [(.ref w3), (.ref w6), (.ref w9), .null, .null, .null, .null, .null, .null, .null, .null, .null, .null, .null, .null, .null, .null, .null] .null := Arv.set Ar_b2_22 q_b2_22 S_b2_22 N_b2_22 H_b2_22 G_b2_22 rfl W11 2 rfl (Nat.le_of_ble_eq_true rfl)
  have K11 : Keep h0 h11 [] := K8.wr W11 (Or.inr sz_b2)
  have N11 := Fr.snoc X11 N8 g_b2
  obtain ⟨T13, X13, e13, st13⟩ := getS2 X11 hx hZ hown (host := "") (Or.inl (hw _ (List.mem_of_getElem? (i := 10) rfl))) Via.refl e11 (S_ADD.ext (own_ext K11)) (g := (mkF m 25 #[.val (.int p1), .unset, .unset, .unset] [(.int (3 : Int32)), (.ref b2), (.ref b2)])) rfl (hb hby at_25)
  obtain ⟨cl_b2_28, Ar_b2_28, q_b2_28, S_b2_28, N_b2_28, H_b2_28, G_b2_28⟩ := id V_b2_11
  have hin28 : ¬ ((3 : Int32) < 0 ∨ cl_b2_28.slots.size ≤ ((3 : Int32)).toNatClampNeg) := inb_of S_b2_28 ⟨by decide, by decide⟩
  obtain ⟨T14, h14, X14, e14, W14, st14⟩ := stR X13 hx hZ e13 Ar_b2_28 (j := (3 : Int32)) hin28 rfl (Sto.ofV Ar_b2_28 q_b2_28 O2 (Ins.self (E_w12.ext (own_ext K11)))) (g := (mkF m 28 #[.val (.int p1), .unset, .unset, .unset] [(.ref w12), (.int (3 : Int32)), (.ref b2), (.ref b2)])) rfl rfl (hb hby at_28)
  have V_b2_14 : Arv Z h14 b2 k2 (.object "com/example/open_frontier/openfrontier/frontend/Expression$BinaryOperator") (18 : Int32) [(.ref w3), (.ref w6), (.ref w9), (.ref w12), .null, .null, .null, .null, .null, .null, .null, .null, .null, .null, .null, .null, .null, .null] .null := Arv.set Ar_b2_28 q_b2_28 S_b2_28 N_b2_28 H_b2_28 G_b2_28 rfl W14 3 rfl (Nat.le_of_ble_eq_true rfl)
  have K14 : Keep h0 h14 [] := K11.wr W14 (Or.inr sz_b2)
  have N14 := Fr.snoc X14 N11 g_b2
  obtain ⟨T16, X16, e16, st16⟩ := getS2 X14 hx hZ hown (host := "") (Or.inl (hw _ (List.mem_of_getElem? (i := 12) rfl))) Via.refl e14 (S_SUBTRACT.ext (own_ext K14)) (g := (mkF m 31 #[.val (.int p1), .unset, .unset, .unset] [(.int (4 : Int32)), (.ref b2), (.ref b2)])) rfl (hb hby at_31)
  obtain ⟨cl_b2_34, Ar_b2_34, q_b2_34, S_b2_34, N_b2_34, H_b2_34, G_b2_34⟩ := id V_b2_14
  have hin34 : ¬ ((4 : Int32) < 0 ∨ cl_b2_34.slots.size ≤ ((4 : Int32)).toNatClampNeg) := inb_of S_b2_34 ⟨by decide, by decide⟩
  obtain ⟨T17, h17, X17, e17, W17, st17⟩ := stR X16 hx hZ e16 Ar_b2_34 (j := (4 : Int32)) hin34 rfl (Sto.ofV Ar_b2_34 q_b2_34 O2 (Ins.self (E_w15.ext (own_ext K14)))) (g := (mkF m 34 #[.val (.int p1), .unset, .unset, .unset] [(.ref w15), (.int (4 : Int32)), (.ref b2), (.ref b2)])) rfl rfl (hb hby at_34)
  have V_b2_17 : Arv Z h17 b2 k2 (.object "com/example/open_frontier/openfrontier/frontend/Expression$BinaryOperator") (18 : Int32) [(.ref w3), (.ref w6), (.ref w9), (.ref w12), (.ref w15), .null, .null, .null, .null, .null, .null, .null, .null, .null, .null, .null, .null, .null] .null := Arv.set Ar_b2_34 q_b2_34 S_b2_34 N_b2_34 H_b2_34 G_b2_34 rfl W17 4 rfl (Nat.le_of_ble_eq_true rfl)
  have K17 : Keep h0 h17 [] := K14.wr W17 (Or.inr sz_b2)
  have N17 := Fr.snoc X17 N14 g_b2
  obtain ⟨T19, X19, e19, st19⟩ := getS2 X17 hx hZ hown (host := "") (Or.inl (hw _ (List.mem_of_getElem? (i := 14) rfl))) Via.refl e17 (S_SHIFT_LEFT.ext (own_ext K17)) (g := (mkF m 37 #[.val (.int p1), .unset, .unset, .unset] [(.int (5 : Int32)), (.ref b2), (.ref b2)])) rfl (hb hby at_37)
  obtain ⟨cl_b2_40, Ar_b2_40, q_b2_40, S_b2_40, N_b2_40, H_b2_40, G_b2_40⟩ := id V_b2_17
  have hin40 : ¬ ((5 : Int32) < 0 ∨ cl_b2_40.slots.size ≤ ((5 : Int32)).toNatClampNeg) := inb_of S_b2_40 ⟨by decide, by decide⟩
  obtain ⟨T20, h20, X20, e20, W20, st20⟩ := stR X19 hx hZ e19 Ar_b2_40 (j := (5 : Int32)) hin40 rfl (Sto.ofV Ar_b2_40 q_b2_40 O2 (Ins.self (E_w18.ext (own_ext K17)))) (g := (mkF m 40 #[.val (.int p1), .unset, .unset, .unset] [(.ref w18), (.int (5 : Int32)), (.ref b2), (.ref b2)])) rfl rfl (hb hby at_40)
  have V_b2_20 : Arv Z h20 b2 k2 (.object "com/example/open_frontier/openfrontier/frontend/Expression$BinaryOperator") (18 : Int32) [(.ref w3), (.ref w6), (.ref w9), (.ref w12), (.ref w15), (.ref w18), .null, .null, .null, .null, .null, .null, .null, .null, .null, .null, .null, .null] .null := Arv.set Ar_b2_40 q_b2_40 S_b2_40 N_b2_40 H_b2_40 G_b2_40 rfl W20 5 rfl (Nat.le_of_ble_eq_true rfl)
  have K20 : Keep h0 h20 [] := K17.wr W20 (Or.inr sz_b2)
  have N20 := Fr.snoc X20 N17 g_b2
  obtain ⟨T22, X22, e22, st22⟩ := getS2 X20 hx hZ hown (host := "") (Or.inl (hw _ (List.mem_of_getElem? (i := 16) rfl))) Via.refl e20 (S_SHIFT_RIGHT.ext (own_ext K20)) (g := (mkF m 44 #[.val (.int p1), .unset, .unset, .unset] [(.int (6 : Int32)), (.ref b2), (.ref b2)])) rfl (hb hby at_44)
  obtain ⟨cl_b2_47, Ar_b2_47, q_b2_47, S_b2_47, N_b2_47, H_b2_47, G_b2_47⟩ := id V_b2_20
  have hin47 : ¬ ((6 : Int32) < 0 ∨ cl_b2_47.slots.size ≤ ((6 : Int32)).toNatClampNeg) := inb_of S_b2_47 ⟨by decide, by decide⟩
  obtain ⟨T23, h23, X23, e23, W23, st23⟩ := stR X22 hx hZ e22 Ar_b2_47 (j := (6 : Int32)) hin47 rfl (Sto.ofV Ar_b2_47 q_b2_47 O2 (Ins.self (E_w21.ext (own_ext K20)))) (g := (mkF m 47 #[.val (.int p1), .unset, .unset, .unset] [(.ref w21), (.int (6 : Int32)), (.ref b2), (.ref b2)])) rfl rfl (hb hby at_47)
  have V_b2_23 : Arv Z h23 b2 k2 (.object "com/example/open_frontier/openfrontier/frontend/Expression$BinaryOperator") (18 : Int32) [(.ref w3), (.ref w6), (.ref w9), (.ref w12), (.ref w15), (.ref w18), (.ref w21), .null, .null, .null, .null, .null, .null, .null, .null, .null, .null, .null] .null := Arv.set Ar_b2_47 q_b2_47 S_b2_47 N_b2_47 H_b2_47 G_b2_47 rfl W23 6 rfl (Nat.le_of_ble_eq_true rfl)
  have K23 : Keep h0 h23 [] := K20.wr W23 (Or.inr sz_b2)
  have N23 := Fr.snoc X23 N20 g_b2
  obtain ⟨T25, X25, e25, st25⟩ := getS2 X23 hx hZ hown (host := "") (Or.inl (hw _ (List.mem_of_getElem? (i := 18) rfl))) Via.refl e23 (S_LESS.ext (own_ext K23)) (g := (mkF m 51 #[.val (.int p1), .unset, .unset, .unset] [(.int (7 : Int32)), (.ref b2), (.ref b2)])) rfl (hb hby at_51)
  obtain ⟨cl_b2_54, Ar_b2_54, q_b2_54, S_b2_54, N_b2_54, H_b2_54, G_b2_54⟩ := id V_b2_23
  have hin54 : ¬ ((7 : Int32) < 0 ∨ cl_b2_54.slots.size ≤ ((7 : Int32)).toNatClampNeg) := inb_of S_b2_54 ⟨by decide, by decide⟩
  obtain ⟨T26, h26, X26, e26, W26, st26⟩ := stR X25 hx hZ e25 Ar_b2_54 (j := (7 : Int32)) hin54 rfl (Sto.ofV Ar_b2_54 q_b2_54 O2 (Ins.self (E_w24.ext (own_ext K23)))) (g := (mkF m 54 #[.val (.int p1), .unset, .unset, .unset] [(.ref w24), (.int (7 : Int32)), (.ref b2), (.ref b2)])) rfl rfl (hb hby at_54)
  have V_b2_26 : Arv Z h26 b2 k2 (.object "com/example/open_frontier/openfrontier/frontend/Expression$BinaryOperator") (18 : Int32) [(.ref w3), (.ref w6), (.ref w9), (.ref w12), (.ref w15), (.ref w18), (.ref w21), (.ref w24), .null, .null, .null, .null, .null, .null, .null, .null, .null, .null] .null := Arv.set Ar_b2_54 q_b2_54 S_b2_54 N_b2_54 H_b2_54 G_b2_54 rfl W26 7 rfl (Nat.le_of_ble_eq_true rfl)
  have K26 : Keep h0 h26 [] := K23.wr W26 (Or.inr sz_b2)
  have N26 := Fr.snoc X26 N23 g_b2
  obtain ⟨T28, X28, e28, st28⟩ := getS2 X26 hx hZ hown (host := "") (Or.inl (hw _ (List.mem_of_getElem? (i := 20) rfl))) Via.refl e26 (S_GREATER.ext (own_ext K26)) (g := (mkF m 58 #[.val (.int p1), .unset, .unset, .unset] [(.int (8 : Int32)), (.ref b2), (.ref b2)])) rfl (hb hby at_58)
  obtain ⟨cl_b2_61, Ar_b2_61, q_b2_61, S_b2_61, N_b2_61, H_b2_61, G_b2_61⟩ := id V_b2_26
  have hin61 : ¬ ((8 : Int32) < 0 ∨ cl_b2_61.slots.size ≤ ((8 : Int32)).toNatClampNeg) := inb_of S_b2_61 ⟨by decide, by decide⟩
  obtain ⟨T29, h29, X29, e29, W29, st29⟩ := stR X28 hx hZ e28 Ar_b2_61 (j := (8 : Int32)) hin61 rfl (Sto.ofV Ar_b2_61 q_b2_61 O2 (Ins.self (E_w27.ext (own_ext K26)))) (g := (mkF m 61 #[.val (.int p1), .unset, .unset, .unset] [(.ref w27), (.int (8 : Int32)), (.ref b2), (.ref b2)])) rfl rfl (hb hby at_61)
  have V_b2_29 : Arv Z h29 b2 k2 (.object "com/example/open_frontier/openfrontier/frontend/Expression$BinaryOperator") (18 : Int32) [(.ref w3), (.ref w6), (.ref w9), (.ref w12), (.ref w15), (.ref w18), (.ref w21), (.ref w24), (.ref w27), .null, .null, .null, .null, .null, .null, .null, .null, .null] .null := Arv.set Ar_b2_61 q_b2_61 S_b2_61 N_b2_61 H_b2_61 G_b2_61 rfl W29 8 rfl (Nat.le_of_ble_eq_true rfl)
  have K29 : Keep h0 h29 [] := K26.wr W29 (Or.inr sz_b2)
  have N29 := Fr.snoc X29 N26 g_b2
  obtain ⟨T31, X31, e31, st31⟩ := getS2 X29 hx hZ hown (host := "") (Or.inl (hw _ (List.mem_of_getElem? (i := 22) rfl))) Via.refl e29 (S_LESS_EQUAL.ext (own_ext K29)) (g := (mkF m 65 #[.val (.int p1), .unset, .unset, .unset] [(.int (9 : Int32)), (.ref b2), (.ref b2)])) rfl (hb hby at_65)
  obtain ⟨cl_b2_68, Ar_b2_68, q_b2_68, S_b2_68, N_b2_68, H_b2_68, G_b2_68⟩ := id V_b2_29
  have hin68 : ¬ ((9 : Int32) < 0 ∨ cl_b2_68.slots.size ≤ ((9 : Int32)).toNatClampNeg) := inb_of S_b2_68 ⟨by decide, by decide⟩
  obtain ⟨T32, h32, X32, e32, W32, st32⟩ := stR X31 hx hZ e31 Ar_b2_68 (j := (9 : Int32)) hin68 rfl (Sto.ofV Ar_b2_68 q_b2_68 O2 (Ins.self (E_w30.ext (own_ext K29)))) (g := (mkF m 68 #[.val (.int p1), .unset, .unset, .unset] [(.ref w30), (.int (9 : Int32)), (.ref b2), (.ref b2)])) rfl rfl (hb hby at_68)
  have V_b2_32 : Arv Z h32 b2 k2 (.object "com/example/open_frontier/openfrontier/frontend/Expression$BinaryOperator") (18 : Int32) [(.ref w3), (.ref w6), (.ref w9), (.ref w12), (.ref w15), (.ref w18), (.ref w21), (.ref w24), (.ref w27), (.ref w30), .null, .null, .null, .null, .null, .null, .null, .null] .null := Arv.set Ar_b2_68 q_b2_68 S_b2_68 N_b2_68 H_b2_68 G_b2_68 rfl W32 9 rfl (Nat.le_of_ble_eq_true rfl)
  have K32 : Keep h0 h32 [] := K29.wr W32 (Or.inr sz_b2)
  have N32 := Fr.snoc X32 N29 g_b2
  obtain ⟨T34, X34, e34, st34⟩ := getS2 X32 hx hZ hown (host := "") (Or.inl (hw _ (List.mem_of_getElem? (i := 24) rfl))) Via.refl e32 (S_GREATER_EQUAL.ext (own_ext K32)) (g := (mkF m 72 #[.val (.int p1), .unset, .unset, .unset] [(.int (10 : Int32)), (.ref b2), (.ref b2)])) rfl (hb hby at_72)
  obtain ⟨cl_b2_75, Ar_b2_75, q_b2_75, S_b2_75, N_b2_75, H_b2_75, G_b2_75⟩ := id V_b2_32
  have hin75 : ¬ ((10 : Int32) < 0 ∨ cl_b2_75.slots.size ≤ ((10 : Int32)).toNatClampNeg) := inb_of S_b2_75 ⟨by decide, by decide⟩
  obtain ⟨T35, h35, X35, e35, W35, st35⟩ := stR X34 hx hZ e34 Ar_b2_75 (j := (10 : Int32)) hin75 rfl (Sto.ofV Ar_b2_75 q_b2_75 O2 (Ins.self (E_w33.ext (own_ext K32)))) (g := (mkF m 75 #[.val (.int p1), .unset, .unset, .unset] [(.ref w33), (.int (10 : Int32)), (.ref b2), (.ref b2)])) rfl rfl (hb hby at_75)
  have V_b2_35 : Arv Z h35 b2 k2 (.object "com/example/open_frontier/openfrontier/frontend/Expression$BinaryOperator") (18 : Int32) [(.ref w3), (.ref w6), (.ref w9), (.ref w12), (.ref w15), (.ref w18), (.ref w21), (.ref w24), (.ref w27), (.ref w30), (.ref w33), .null, .null, .null, .null, .null, .null, .null] .null := Arv.set Ar_b2_75 q_b2_75 S_b2_75 N_b2_75 H_b2_75 G_b2_75 rfl W35 10 rfl (Nat.le_of_ble_eq_true rfl)
  have K35 : Keep h0 h35 [] := K32.wr W35 (Or.inr sz_b2)
  have N35 := Fr.snoc X35 N32 g_b2
  obtain ⟨T37, X37, e37, st37⟩ := getS2 X35 hx hZ hown (host := "") (Or.inl (hw _ (List.mem_of_getElem? (i := 26) rfl))) Via.refl e35 (S_EQUAL.ext (own_ext K35)) (g := (mkF m 79 #[.val (.int p1), .unset, .unset, .unset] [(.int (11 : Int32)), (.ref b2), (.ref b2)])) rfl (hb hby at_79)
  obtain ⟨cl_b2_82, Ar_b2_82, q_b2_82, S_b2_82, N_b2_82, H_b2_82, G_b2_82⟩ := id V_b2_35
  have hin82 : ¬ ((11 : Int32) < 0 ∨ cl_b2_82.slots.size ≤ ((11 : Int32)).toNatClampNeg) := inb_of S_b2_82 ⟨by decide, by decide⟩
  obtain ⟨T38, h38, X38, e38, W38, st38⟩ := stR X37 hx hZ e37 Ar_b2_82 (j := (11 : Int32)) hin82 rfl (Sto.ofV Ar_b2_82 q_b2_82 O2 (Ins.self (E_w36.ext (own_ext K35)))) (g := (mkF m 82 #[.val (.int p1), .unset, .unset, .unset] [(.ref w36), (.int (11 : Int32)), (.ref b2), (.ref b2)])) rfl rfl (hb hby at_82)
  have V_b2_38 : Arv Z h38 b2 k2 (.object "com/example/open_frontier/openfrontier/frontend/Expression$BinaryOperator") (18 : Int32) [(.ref w3), (.ref w6), (.ref w9), (.ref w12), (.ref w15), (.ref w18), (.ref w21), (.ref w24), (.ref w27), (.ref w30), (.ref w33), (.ref w36), .null, .null, .null, .null, .null, .null] .null := Arv.set Ar_b2_82 q_b2_82 S_b2_82 N_b2_82 H_b2_82 G_b2_82 rfl W38 11 rfl (Nat.le_of_ble_eq_true rfl)
  have K38 : Keep h0 h38 [] := K35.wr W38 (Or.inr sz_b2)
  have N38 := Fr.snoc X38 N35 g_b2
  obtain ⟨T40, X40, e40, st40⟩ := getS2 X38 hx hZ hown (host := "") (Or.inl (hw _ (List.mem_of_getElem? (i := 28) rfl))) Via.refl e38 (S_NOT_EQUAL.ext (own_ext K38)) (g := (mkF m 86 #[.val (.int p1), .unset, .unset, .unset] [(.int (12 : Int32)), (.ref b2), (.ref b2)])) rfl (hb hby at_86)
  obtain ⟨cl_b2_89, Ar_b2_89, q_b2_89, S_b2_89, N_b2_89, H_b2_89, G_b2_89⟩ := id V_b2_38
  have hin89 : ¬ ((12 : Int32) < 0 ∨ cl_b2_89.slots.size ≤ ((12 : Int32)).toNatClampNeg) := inb_of S_b2_89 ⟨by decide, by decide⟩
  obtain ⟨T41, h41, X41, e41, W41, st41⟩ := stR X40 hx hZ e40 Ar_b2_89 (j := (12 : Int32)) hin89 rfl (Sto.ofV Ar_b2_89 q_b2_89 O2 (Ins.self (E_w39.ext (own_ext K38)))) (g := (mkF m 89 #[.val (.int p1), .unset, .unset, .unset] [(.ref w39), (.int (12 : Int32)), (.ref b2), (.ref b2)])) rfl rfl (hb hby at_89)
  have V_b2_41 : Arv Z h41 b2 k2 (.object "com/example/open_frontier/openfrontier/frontend/Expression$BinaryOperator") (18 : Int32) [(.ref w3), (.ref w6), (.ref w9), (.ref w12), (.ref w15), (.ref w18), (.ref w21), (.ref w24), (.ref w27), (.ref w30), (.ref w33), (.ref w36), (.ref w39), .null, .null, .null, .null, .null] .null := Arv.set Ar_b2_89 q_b2_89 S_b2_89 N_b2_89 H_b2_89 G_b2_89 rfl W41 12 rfl (Nat.le_of_ble_eq_true rfl)
  have K41 : Keep h0 h41 [] := K38.wr W41 (Or.inr sz_b2)
  have N41 := Fr.snoc X41 N38 g_b2
  obtain ⟨T43, X43, e43, st43⟩ := getS2 X41 hx hZ hown (host := "") (Or.inl (hw _ (List.mem_of_getElem? (i := 30) rfl))) Via.refl e41 (S_BIT_AND.ext (own_ext K41)) (g := (mkF m 93 #[.val (.int p1), .unset, .unset, .unset] [(.int (13 : Int32)), (.ref b2), (.ref b2)])) rfl (hb hby at_93)
  obtain ⟨cl_b2_96, Ar_b2_96, q_b2_96, S_b2_96, N_b2_96, H_b2_96, G_b2_96⟩ := id V_b2_41
  have hin96 : ¬ ((13 : Int32) < 0 ∨ cl_b2_96.slots.size ≤ ((13 : Int32)).toNatClampNeg) := inb_of S_b2_96 ⟨by decide, by decide⟩
  obtain ⟨T44, h44, X44, e44, W44, st44⟩ := stR X43 hx hZ e43 Ar_b2_96 (j := (13 : Int32)) hin96 rfl (Sto.ofV Ar_b2_96 q_b2_96 O2 (Ins.self (E_w42.ext (own_ext K41)))) (g := (mkF m 96 #[.val (.int p1), .unset, .unset, .unset] [(.ref w42), (.int (13 : Int32)), (.ref b2), (.ref b2)])) rfl rfl (hb hby at_96)
  have V_b2_44 : Arv Z h44 b2 k2 (.object "com/example/open_frontier/openfrontier/frontend/Expression$BinaryOperator") (18 : Int32) [(.ref w3), (.ref w6), (.ref w9), (.ref w12), (.ref w15), (.ref w18), (.ref w21), (.ref w24), (.ref w27), (.ref w30), (.ref w33), (.ref w36), (.ref w39), (.ref w42), .null, .null, .null, .null] .null := Arv.set Ar_b2_96 q_b2_96 S_b2_96 N_b2_96 H_b2_96 G_b2_96 rfl W44 13 rfl (Nat.le_of_ble_eq_true rfl)
  have K44 : Keep h0 h44 [] := K41.wr W44 (Or.inr sz_b2)
  have N44 := Fr.snoc X44 N41 g_b2
  obtain ⟨T46, X46, e46, st46⟩ := getS2 X44 hx hZ hown (host := "") (Or.inl (hw _ (List.mem_of_getElem? (i := 32) rfl))) Via.refl e44 (S_BIT_XOR.ext (own_ext K44)) (g := (mkF m 100 #[.val (.int p1), .unset, .unset, .unset] [(.int (14 : Int32)), (.ref b2), (.ref b2)])) rfl (hb hby at_100)
  obtain ⟨cl_b2_103, Ar_b2_103, q_b2_103, S_b2_103, N_b2_103, H_b2_103, G_b2_103⟩ := id V_b2_44
  have hin103 : ¬ ((14 : Int32) < 0 ∨ cl_b2_103.slots.size ≤ ((14 : Int32)).toNatClampNeg) := inb_of S_b2_103 ⟨by decide, by decide⟩
  obtain ⟨T47, h47, X47, e47, W47, st47⟩ := stR X46 hx hZ e46 Ar_b2_103 (j := (14 : Int32)) hin103 rfl (Sto.ofV Ar_b2_103 q_b2_103 O2 (Ins.self (E_w45.ext (own_ext K44)))) (g := (mkF m 103 #[.val (.int p1), .unset, .unset, .unset] [(.ref w45), (.int (14 : Int32)), (.ref b2), (.ref b2)])) rfl rfl (hb hby at_103)
  have V_b2_47 : Arv Z h47 b2 k2 (.object "com/example/open_frontier/openfrontier/frontend/Expression$BinaryOperator") (18 : Int32) [(.ref w3), (.ref w6), (.ref w9), (.ref w12), (.ref w15), (.ref w18), (.ref w21), (.ref w24), (.ref w27), (.ref w30), (.ref w33), (.ref w36), (.ref w39), (.ref w42), (.ref w45), .null, .null, .null] .null := Arv.set Ar_b2_103 q_b2_103 S_b2_103 N_b2_103 H_b2_103 G_b2_103 rfl W47 14 rfl (Nat.le_of_ble_eq_true rfl)
  have K47 : Keep h0 h47 [] := K44.wr W47 (Or.inr sz_b2)
  have N47 := Fr.snoc X47 N44 g_b2
  obtain ⟨T49, X49, e49, st49⟩ := getS2 X47 hx hZ hown (host := "") (Or.inl (hw _ (List.mem_of_getElem? (i := 34) rfl))) Via.refl e47 (S_BIT_OR.ext (own_ext K47)) (g := (mkF m 107 #[.val (.int p1), .unset, .unset, .unset] [(.int (15 : Int32)), (.ref b2), (.ref b2)])) rfl (hb hby at_107)
  obtain ⟨cl_b2_110, Ar_b2_110, q_b2_110, S_b2_110, N_b2_110, H_b2_110, G_b2_110⟩ := id V_b2_47
  have hin110 : ¬ ((15 : Int32) < 0 ∨ cl_b2_110.slots.size ≤ ((15 : Int32)).toNatClampNeg) := inb_of S_b2_110 ⟨by decide, by decide⟩
  obtain ⟨T50, h50, X50, e50, W50, st50⟩ := stR X49 hx hZ e49 Ar_b2_110 (j := (15 : Int32)) hin110 rfl (Sto.ofV Ar_b2_110 q_b2_110 O2 (Ins.self (E_w48.ext (own_ext K47)))) (g := (mkF m 110 #[.val (.int p1), .unset, .unset, .unset] [(.ref w48), (.int (15 : Int32)), (.ref b2), (.ref b2)])) rfl rfl (hb hby at_110)
  have V_b2_50 : Arv Z h50 b2 k2 (.object "com/example/open_frontier/openfrontier/frontend/Expression$BinaryOperator") (18 : Int32) [(.ref w3), (.ref w6), (.ref w9), (.ref w12), (.ref w15), (.ref w18), (.ref w21), (.ref w24), (.ref w27), (.ref w30), (.ref w33), (.ref w36), (.ref w39), (.ref w42), (.ref w45), (.ref w48), .null, .null] .null := Arv.set Ar_b2_110 q_b2_110 S_b2_110 N_b2_110 H_b2_110 G_b2_110 rfl W50 15 rfl (Nat.le_of_ble_eq_true rfl)
  have K50 : Keep h0 h50 [] := K47.wr W50 (Or.inr sz_b2)
  have N50 := Fr.snoc X50 N47 g_b2
  obtain ⟨T52, X52, e52, st52⟩ := getS2 X50 hx hZ hown (host := "") (Or.inl (hw _ (List.mem_of_getElem? (i := 36) rfl))) Via.refl e50 (S_LOGICAL_AND.ext (own_ext K50)) (g := (mkF m 114 #[.val (.int p1), .unset, .unset, .unset] [(.int (16 : Int32)), (.ref b2), (.ref b2)])) rfl (hb hby at_114)
  obtain ⟨cl_b2_117, Ar_b2_117, q_b2_117, S_b2_117, N_b2_117, H_b2_117, G_b2_117⟩ := id V_b2_50
  have hin117 : ¬ ((16 : Int32) < 0 ∨ cl_b2_117.slots.size ≤ ((16 : Int32)).toNatClampNeg) := inb_of S_b2_117 ⟨by decide, by decide⟩
  obtain ⟨T53, h53, X53, e53, W53, st53⟩ := stR X52 hx hZ e52 Ar_b2_117 (j := (16 : Int32)) hin117 rfl (Sto.ofV Ar_b2_117 q_b2_117 O2 (Ins.self (E_w51.ext (own_ext K50)))) (g := (mkF m 117 #[.val (.int p1), .unset, .unset, .unset] [(.ref w51), (.int (16 : Int32)), (.ref b2), (.ref b2)])) rfl rfl (hb hby at_117)
  have V_b2_53 : Arv Z h53 b2 k2 (.object "com/example/open_frontier/openfrontier/frontend/Expression$BinaryOperator") (18 : Int32) [(.ref w3), (.ref w6), (.ref w9), (.ref w12), (.ref w15), (.ref w18), (.ref w21), (.ref w24), (.ref w27), (.ref w30), (.ref w33), (.ref w36), (.ref w39), (.ref w42), (.ref w45), (.ref w48), (.ref w51), .null] .null := Arv.set Ar_b2_117 q_b2_117 S_b2_117 N_b2_117 H_b2_117 G_b2_117 rfl W53 16 rfl (Nat.le_of_ble_eq_true rfl)
  have K53 : Keep h0 h53 [] := K50.wr W53 (Or.inr sz_b2)
  have N53 := Fr.snoc X53 N50 g_b2
  obtain ⟨T55, X55, e55, st55⟩ := getS2 X53 hx hZ hown (host := "") (Or.inl (hw _ (List.mem_of_getElem? (i := 38) rfl))) Via.refl e53 (S_LOGICAL_OR.ext (own_ext K53)) (g := (mkF m 121 #[.val (.int p1), .unset, .unset, .unset] [(.int (17 : Int32)), (.ref b2), (.ref b2)])) rfl (hb hby at_121)
  obtain ⟨cl_b2_124, Ar_b2_124, q_b2_124, S_b2_124, N_b2_124, H_b2_124, G_b2_124⟩ := id V_b2_53
  have hin124 : ¬ ((17 : Int32) < 0 ∨ cl_b2_124.slots.size ≤ ((17 : Int32)).toNatClampNeg) := inb_of S_b2_124 ⟨by decide, by decide⟩
  obtain ⟨T56, h56, X56, e56, W56, st56⟩ := stR X55 hx hZ e55 Ar_b2_124 (j := (17 : Int32)) hin124 rfl (Sto.ofV Ar_b2_124 q_b2_124 O2 (Ins.self (E_w54.ext (own_ext K53)))) (g := (mkF m 124 #[.val (.int p1), .unset, .unset, .unset] [(.ref w54), (.int (17 : Int32)), (.ref b2), (.ref b2)])) rfl rfl (hb hby at_124)
  have V_b2_56 : Arv Z h56 b2 k2 (.object "com/example/open_frontier/openfrontier/frontend/Expression$BinaryOperator") (18 : Int32) [(.ref w3), (.ref w6), (.ref w9), (.ref w12), (.ref w15), (.ref w18), (.ref w21), (.ref w24), (.ref w27), (.ref w30), (.ref w33), (.ref w36), (.ref w39), (.ref w42), (.ref w45), (.ref w48), (.ref w51), (.ref w54)] .null := Arv.set Ar_b2_124 q_b2_124 S_b2_124 N_b2_124 H_b2_124 G_b2_124 rfl W56 17 rfl (Nat.le_of_ble_eq_true rfl)
  have K56 : Keep h0 h56 [] := K53.wr W56 (Or.inr sz_b2)
  have N56 := Fr.snoc X56 N53 g_b2
  obtain ⟨cl_b2_153, Ar_b2_153, q_b2_153, S_b2_153, N_b2_153, H_b2_153, G_b2_153⟩ := id V_b2_56
  have hin153 : ¬ (((p1 &&& (2147483647 : Int32)) % (18 : Int32)) < 0 ∨ cl_b2_153.slots.size ≤ (((p1 &&& (2147483647 : Int32)) % (18 : Int32))).toNatClampNeg) := inb_of S_b2_153 hinb153
  have hat153 : cl_b2_153.slots[(((p1 &&& (2147483647 : Int32)) % (18 : Int32))).toNatClampNeg]? = some (.ref w57) := H_b2_153.at hin153 hval153
  -- pc 154: com/example/open_frontier/openfrontier/frontend/Expression$BinaryOperator.isShift by the contract of the body that the receiver's class selects, rm1
  obtain ⟨cq58, kq58, q58a, q58b, q58c⟩ := isOf hZ e56 (E_w57.ext (own_ext K56))
  obtain ⟨_, _, ⟨T58, L58, k58, n58⟩, -, X58, ⟨Lc58, hQ58, l58, y58, z58⟩, st58⟩ := X56.virtualBack hx (y := (⟨"com/example/open_frontier/openfrontier/frontend/Expression$BinaryOperator", "isShift", "()Z"⟩ : MethodName)) (z := (⟨"com/example/open_frontier/openfrontier/frontend/Expression$BinaryOperator", "isShift", "()Z"⟩ : MethodName)) hown (mvT hZ (hw _ (List.mem_of_getElem? (i := 41) rfl))) (mvT hZ (hw _ (List.mem_of_getElem? (i := 42) rfl))) (notFace_of_selects (args := #[]) (mvT hZ (hw _ (List.mem_of_getElem? (i := 44) rfl)))) (mvT hZ (hw _ (List.mem_of_getElem? (i := 44) rfl))) (mvT hZ (hw _ (List.mem_of_getElem? (i := 43) rfl))) (by decide) (backOf (W := 0) (rm1 l Z a0 hw [] w57 w18 w21 h56 n0 (Nat.le_trans (Nat.le_trans (Nat.le_trans (Nat.le_trans (Nat.le_trans (Nat.le_trans (Nat.le_trans (Nat.le_trans (Nat.le_trans (Nat.le_trans (Nat.le_trans (Nat.le_trans (Nat.le_trans (Nat.le_trans (Nat.le_trans (Nat.le_trans (Nat.le_trans (Nat.le_trans (Nat.le_trans Z0 E2.1) (Keep.of_wr W5).1) (Keep.of_wr W8).1) (Keep.of_wr W11).1) (Keep.of_wr W14).1) (Keep.of_wr W17).1) (Keep.of_wr W20).1) (Keep.of_wr W23).1) (Keep.of_wr W26).1) (Keep.of_wr W29).1) (Keep.of_wr W32).1) (Keep.of_wr W35).1) (Keep.of_wr W38).1) (Keep.of_wr W41).1) (Keep.of_wr W44).1) (Keep.of_wr W47).1) (Keep.of_wr W50).1) (Keep.of_wr W53).1) (Keep.of_wr W56).1) (S_SHIFT_LEFT.ext (own_ext K56)) (S_SHIFT_RIGHT.ext (own_ext K56)) (0 : Int32) hbb) hZ (hw _ (List.mem_of_getElem? (i := 45) rfl)) (hw _ (List.mem_of_getElem? (i := 3) rfl)) (by decide) (by decide)) q58a q58c (g := (mkF m 154 #[.val (.int p1), .val (.ref b2), .val (.int ((p1 &&& (2147483647 : Int32)) % (18 : Int32))), .val (.int (0 : Int32))] [(.ref w57)])) rfl (by rw [hml]; rfl) (Steps.refl _) (argsL := []) (rest := []) (lenOf pd_0_0 rfl) rfl (by show 2 * 0 + _ ≤ _; exact Nat.le_of_eq rfl) (hb hby at_154) (fun _ _ => ⟨rfl, e56, (by decide : 1 + 0 ≤ _), (by decide : 18 + 0 ≤ _)⟩)
  dsimp only [Pt.U, Pt.locs, Pt.cells, Pt.slots] at X58 l58 y58 z58 st58 hQ58
  subst l58 y58 z58
  obtain ⟨rfl, N58q, eq58⟩ := hQ58
  have N58 := Fr.app N56 N58q
  obtain ⟨fs, hr, hrun, hended, hW, hsame⟩ := X58.leave (v := some (.int (1 : Int32))) (fun h => by rw [Bd.returns] at h; cases h)
  refine ⟨_, _, pre0 _ ?_, hrun, hended, _, _, rfl, ?_, ⟨_, rfl⟩, hW, hsame.mono (by decide) (by decide)⟩
  · show Steps p.tables e below (s₁.setTop (mkF m 0 #[.val (.int p1), .unset, .unset, .unset] [])) _
    refine XS.bipush X0.here hx rfl (hb hby at_0) ?_
    show Steps p.tables e below (s₁.setTop (mkF m 2 #[.val (.int p1), .unset, .unset, .unset] [(.int (18 : Int32))])) _
    refine st2 _ ?_
    show Steps p.tables e below (T2.setTop (mkF m 5 #[.val (.int p1), .unset, .unset, .unset] [(.ref b2)])) _
    refine XS.dup X2.here hx rfl (hb hby at_5) rfl rfl ?_
    show Steps p.tables e below (T2.setTop (mkF m 6 #[.val (.int p1), .unset, .unset, .unset] [(.ref b2), (.ref b2)])) _
    refine XS.iconst X2.here hx rfl (hb hby at_6) ?_
    show Steps p.tables e below (T2.setTop (mkF m 7 #[.val (.int p1), .unset, .unset, .unset] [(.int (0 : Int32)), (.ref b2), (.ref b2)])) _
    refine st4 _ ?_
    show Steps p.tables e below (T4.setTop (mkF m 10 #[.val (.int p1), .unset, .unset, .unset] [(.ref w3), (.int (0 : Int32)), (.ref b2), (.ref b2)])) _
    refine st5 _ ?_
    show Steps p.tables e below (T5.setTop (mkF m 11 #[.val (.int p1), .unset, .unset, .unset] [(.ref b2)])) _
    refine XS.dup X5.here hx rfl (hb hby at_11) rfl rfl ?_
    show Steps p.tables e below (T5.setTop (mkF m 12 #[.val (.int p1), .unset, .unset, .unset] [(.ref b2), (.ref b2)])) _
    refine XS.iconst X5.here hx rfl (hb hby at_12) ?_
    show Steps p.tables e below (T5.setTop (mkF m 13 #[.val (.int p1), .unset, .unset, .unset] [(.int (1 : Int32)), (.ref b2), (.ref b2)])) _
    refine st7 _ ?_
    show Steps p.tables e below (T7.setTop (mkF m 16 #[.val (.int p1), .unset, .unset, .unset] [(.ref w6), (.int (1 : Int32)), (.ref b2), (.ref b2)])) _
    refine st8 _ ?_
    show Steps p.tables e below (T8.setTop (mkF m 17 #[.val (.int p1), .unset, .unset, .unset] [(.ref b2)])) _
    refine XS.dup X8.here hx rfl (hb hby at_17) rfl rfl ?_
    show Steps p.tables e below (T8.setTop (mkF m 18 #[.val (.int p1), .unset, .unset, .unset] [(.ref b2), (.ref b2)])) _
    refine XS.iconst X8.here hx rfl (hb hby at_18) ?_
    show Steps p.tables e below (T8.setTop (mkF m 19 #[.val (.int p1), .unset, .unset, .unset] [(.int (2 : Int32)), (.ref b2), (.ref b2)])) _
    refine st10 _ ?_
    show Steps p.tables e below (T10.setTop (mkF m 22 #[.val (.int p1), .unset, .unset, .unset] [(.ref w9), (.int (2 : Int32)), (.ref b2), (.ref b2)])) _
    refine st11 _ ?_
    show Steps p.tables e below (T11.setTop (mkF m 23 #[.val (.int p1), .unset, .unset, .unset] [(.ref b2)])) _
    refine XS.dup X11.here hx rfl (hb hby at_23) rfl rfl ?_
    show Steps p.tables e below (T11.setTop (mkF m 24 #[.val (.int p1), .unset, .unset, .unset] [(.ref b2), (.ref b2)])) _
    refine XS.iconst X11.here hx rfl (hb hby at_24) ?_
    show Steps p.tables e below (T11.setTop (mkF m 25 #[.val (.int p1), .unset, .unset, .unset] [(.int (3 : Int32)), (.ref b2), (.ref b2)])) _
    refine st13 _ ?_
    show Steps p.tables e below (T13.setTop (mkF m 28 #[.val (.int p1), .unset, .unset, .unset] [(.ref w12), (.int (3 : Int32)), (.ref b2), (.ref b2)])) _
    refine st14 _ ?_
    show Steps p.tables e below (T14.setTop (mkF m 29 #[.val (.int p1), .unset, .unset, .unset] [(.ref b2)])) _
    refine XS.dup X14.here hx rfl (hb hby at_29) rfl rfl ?_
    show Steps p.tables e below (T14.setTop (mkF m 30 #[.val (.int p1), .unset, .unset, .unset] [(.ref b2), (.ref b2)])) _
    refine XS.iconst X14.here hx rfl (hb hby at_30) ?_
    show Steps p.tables e below (T14.setTop (mkF m 31 #[.val (.int p1), .unset, .unset, .unset] [(.int (4 : Int32)), (.ref b2), (.ref b2)])) _
    refine st16 _ ?_
    show Steps p.tables e below (T16.setTop (mkF m 34 #[.val (.int p1), .unset, .unset, .unset] [(.ref w15), (.int (4 : Int32)), (.ref b2), (.ref b2)])) _
    refine st17 _ ?_
    show Steps p.tables e below (T17.setTop (mkF m 35 #[.val (.int p1), .unset, .unset, .unset] [(.ref b2)])) _
    refine XS.dup X17.here hx rfl (hb hby at_35) rfl rfl ?_
    show Steps p.tables e below (T17.setTop (mkF m 36 #[.val (.int p1), .unset, .unset, .unset] [(.ref b2), (.ref b2)])) _
    refine XS.iconst X17.here hx rfl (hb hby at_36) ?_
    show Steps p.tables e below (T17.setTop (mkF m 37 #[.val (.int p1), .unset, .unset, .unset] [(.int (5 : Int32)), (.ref b2), (.ref b2)])) _
    refine st19 _ ?_
    show Steps p.tables e below (T19.setTop (mkF m 40 #[.val (.int p1), .unset, .unset, .unset] [(.ref w18), (.int (5 : Int32)), (.ref b2), (.ref b2)])) _
    refine st20 _ ?_
    show Steps p.tables e below (T20.setTop (mkF m 41 #[.val (.int p1), .unset, .unset, .unset] [(.ref b2)])) _
    refine XS.dup X20.here hx rfl (hb hby at_41) rfl rfl ?_
    show Steps p.tables e below (T20.setTop (mkF m 42 #[.val (.int p1), .unset, .unset, .unset] [(.ref b2), (.ref b2)])) _
    refine XS.bipush X20.here hx rfl (hb hby at_42) ?_
    show Steps p.tables e below (T20.setTop (mkF m 44 #[.val (.int p1), .unset, .unset, .unset] [(.int (6 : Int32)), (.ref b2), (.ref b2)])) _
    refine st22 _ ?_
    show Steps p.tables e below (T22.setTop (mkF m 47 #[.val (.int p1), .unset, .unset, .unset] [(.ref w21), (.int (6 : Int32)), (.ref b2), (.ref b2)])) _
    refine st23 _ ?_
    show Steps p.tables e below (T23.setTop (mkF m 48 #[.val (.int p1), .unset, .unset, .unset] [(.ref b2)])) _
    refine XS.dup X23.here hx rfl (hb hby at_48) rfl rfl ?_
    show Steps p.tables e below (T23.setTop (mkF m 49 #[.val (.int p1), .unset, .unset, .unset] [(.ref b2), (.ref b2)])) _
    refine XS.bipush X23.here hx rfl (hb hby at_49) ?_
    show Steps p.tables e below (T23.setTop (mkF m 51 #[.val (.int p1), .unset, .unset, .unset] [(.int (7 : Int32)), (.ref b2), (.ref b2)])) _
    refine st25 _ ?_
    show Steps p.tables e below (T25.setTop (mkF m 54 #[.val (.int p1), .unset, .unset, .unset] [(.ref w24), (.int (7 : Int32)), (.ref b2), (.ref b2)])) _
    refine st26 _ ?_
    show Steps p.tables e below (T26.setTop (mkF m 55 #[.val (.int p1), .unset, .unset, .unset] [(.ref b2)])) _
    refine XS.dup X26.here hx rfl (hb hby at_55) rfl rfl ?_
    show Steps p.tables e below (T26.setTop (mkF m 56 #[.val (.int p1), .unset, .unset, .unset] [(.ref b2), (.ref b2)])) _
    refine XS.bipush X26.here hx rfl (hb hby at_56) ?_
    show Steps p.tables e below (T26.setTop (mkF m 58 #[.val (.int p1), .unset, .unset, .unset] [(.int (8 : Int32)), (.ref b2), (.ref b2)])) _
    refine st28 _ ?_
    show Steps p.tables e below (T28.setTop (mkF m 61 #[.val (.int p1), .unset, .unset, .unset] [(.ref w27), (.int (8 : Int32)), (.ref b2), (.ref b2)])) _
    refine st29 _ ?_
    show Steps p.tables e below (T29.setTop (mkF m 62 #[.val (.int p1), .unset, .unset, .unset] [(.ref b2)])) _
    refine XS.dup X29.here hx rfl (hb hby at_62) rfl rfl ?_
    show Steps p.tables e below (T29.setTop (mkF m 63 #[.val (.int p1), .unset, .unset, .unset] [(.ref b2), (.ref b2)])) _
    refine XS.bipush X29.here hx rfl (hb hby at_63) ?_
    show Steps p.tables e below (T29.setTop (mkF m 65 #[.val (.int p1), .unset, .unset, .unset] [(.int (9 : Int32)), (.ref b2), (.ref b2)])) _
    refine st31 _ ?_
    show Steps p.tables e below (T31.setTop (mkF m 68 #[.val (.int p1), .unset, .unset, .unset] [(.ref w30), (.int (9 : Int32)), (.ref b2), (.ref b2)])) _
    refine st32 _ ?_
    show Steps p.tables e below (T32.setTop (mkF m 69 #[.val (.int p1), .unset, .unset, .unset] [(.ref b2)])) _
    refine XS.dup X32.here hx rfl (hb hby at_69) rfl rfl ?_
    show Steps p.tables e below (T32.setTop (mkF m 70 #[.val (.int p1), .unset, .unset, .unset] [(.ref b2), (.ref b2)])) _
    refine XS.bipush X32.here hx rfl (hb hby at_70) ?_
    show Steps p.tables e below (T32.setTop (mkF m 72 #[.val (.int p1), .unset, .unset, .unset] [(.int (10 : Int32)), (.ref b2), (.ref b2)])) _
    refine st34 _ ?_
    show Steps p.tables e below (T34.setTop (mkF m 75 #[.val (.int p1), .unset, .unset, .unset] [(.ref w33), (.int (10 : Int32)), (.ref b2), (.ref b2)])) _
    refine st35 _ ?_
    show Steps p.tables e below (T35.setTop (mkF m 76 #[.val (.int p1), .unset, .unset, .unset] [(.ref b2)])) _
    refine XS.dup X35.here hx rfl (hb hby at_76) rfl rfl ?_
    show Steps p.tables e below (T35.setTop (mkF m 77 #[.val (.int p1), .unset, .unset, .unset] [(.ref b2), (.ref b2)])) _
    refine XS.bipush X35.here hx rfl (hb hby at_77) ?_
    show Steps p.tables e below (T35.setTop (mkF m 79 #[.val (.int p1), .unset, .unset, .unset] [(.int (11 : Int32)), (.ref b2), (.ref b2)])) _
    refine st37 _ ?_
    show Steps p.tables e below (T37.setTop (mkF m 82 #[.val (.int p1), .unset, .unset, .unset] [(.ref w36), (.int (11 : Int32)), (.ref b2), (.ref b2)])) _
    refine st38 _ ?_
    show Steps p.tables e below (T38.setTop (mkF m 83 #[.val (.int p1), .unset, .unset, .unset] [(.ref b2)])) _
    refine XS.dup X38.here hx rfl (hb hby at_83) rfl rfl ?_
    show Steps p.tables e below (T38.setTop (mkF m 84 #[.val (.int p1), .unset, .unset, .unset] [(.ref b2), (.ref b2)])) _
    refine XS.bipush X38.here hx rfl (hb hby at_84) ?_
    show Steps p.tables e below (T38.setTop (mkF m 86 #[.val (.int p1), .unset, .unset, .unset] [(.int (12 : Int32)), (.ref b2), (.ref b2)])) _
    refine st40 _ ?_
    show Steps p.tables e below (T40.setTop (mkF m 89 #[.val (.int p1), .unset, .unset, .unset] [(.ref w39), (.int (12 : Int32)), (.ref b2), (.ref b2)])) _
    refine st41 _ ?_
    show Steps p.tables e below (T41.setTop (mkF m 90 #[.val (.int p1), .unset, .unset, .unset] [(.ref b2)])) _
    refine XS.dup X41.here hx rfl (hb hby at_90) rfl rfl ?_
    show Steps p.tables e below (T41.setTop (mkF m 91 #[.val (.int p1), .unset, .unset, .unset] [(.ref b2), (.ref b2)])) _
    refine XS.bipush X41.here hx rfl (hb hby at_91) ?_
    show Steps p.tables e below (T41.setTop (mkF m 93 #[.val (.int p1), .unset, .unset, .unset] [(.int (13 : Int32)), (.ref b2), (.ref b2)])) _
    refine st43 _ ?_
    show Steps p.tables e below (T43.setTop (mkF m 96 #[.val (.int p1), .unset, .unset, .unset] [(.ref w42), (.int (13 : Int32)), (.ref b2), (.ref b2)])) _
    refine st44 _ ?_
    show Steps p.tables e below (T44.setTop (mkF m 97 #[.val (.int p1), .unset, .unset, .unset] [(.ref b2)])) _
    refine XS.dup X44.here hx rfl (hb hby at_97) rfl rfl ?_
    show Steps p.tables e below (T44.setTop (mkF m 98 #[.val (.int p1), .unset, .unset, .unset] [(.ref b2), (.ref b2)])) _
    refine XS.bipush X44.here hx rfl (hb hby at_98) ?_
    show Steps p.tables e below (T44.setTop (mkF m 100 #[.val (.int p1), .unset, .unset, .unset] [(.int (14 : Int32)), (.ref b2), (.ref b2)])) _
    refine st46 _ ?_
    show Steps p.tables e below (T46.setTop (mkF m 103 #[.val (.int p1), .unset, .unset, .unset] [(.ref w45), (.int (14 : Int32)), (.ref b2), (.ref b2)])) _
    refine st47 _ ?_
    show Steps p.tables e below (T47.setTop (mkF m 104 #[.val (.int p1), .unset, .unset, .unset] [(.ref b2)])) _
    refine XS.dup X47.here hx rfl (hb hby at_104) rfl rfl ?_
    show Steps p.tables e below (T47.setTop (mkF m 105 #[.val (.int p1), .unset, .unset, .unset] [(.ref b2), (.ref b2)])) _
    refine XS.bipush X47.here hx rfl (hb hby at_105) ?_
    show Steps p.tables e below (T47.setTop (mkF m 107 #[.val (.int p1), .unset, .unset, .unset] [(.int (15 : Int32)), (.ref b2), (.ref b2)])) _
    refine st49 _ ?_
    show Steps p.tables e below (T49.setTop (mkF m 110 #[.val (.int p1), .unset, .unset, .unset] [(.ref w48), (.int (15 : Int32)), (.ref b2), (.ref b2)])) _
    refine st50 _ ?_
    show Steps p.tables e below (T50.setTop (mkF m 111 #[.val (.int p1), .unset, .unset, .unset] [(.ref b2)])) _
    refine XS.dup X50.here hx rfl (hb hby at_111) rfl rfl ?_
    show Steps p.tables e below (T50.setTop (mkF m 112 #[.val (.int p1), .unset, .unset, .unset] [(.ref b2), (.ref b2)])) _
    refine XS.bipush X50.here hx rfl (hb hby at_112) ?_
    show Steps p.tables e below (T50.setTop (mkF m 114 #[.val (.int p1), .unset, .unset, .unset] [(.int (16 : Int32)), (.ref b2), (.ref b2)])) _
    refine st52 _ ?_
    show Steps p.tables e below (T52.setTop (mkF m 117 #[.val (.int p1), .unset, .unset, .unset] [(.ref w51), (.int (16 : Int32)), (.ref b2), (.ref b2)])) _
    refine st53 _ ?_
    show Steps p.tables e below (T53.setTop (mkF m 118 #[.val (.int p1), .unset, .unset, .unset] [(.ref b2)])) _
    refine XS.dup X53.here hx rfl (hb hby at_118) rfl rfl ?_
    show Steps p.tables e below (T53.setTop (mkF m 119 #[.val (.int p1), .unset, .unset, .unset] [(.ref b2), (.ref b2)])) _
    refine XS.bipush X53.here hx rfl (hb hby at_119) ?_
    show Steps p.tables e below (T53.setTop (mkF m 121 #[.val (.int p1), .unset, .unset, .unset] [(.int (17 : Int32)), (.ref b2), (.ref b2)])) _
    refine st55 _ ?_
    show Steps p.tables e below (T55.setTop (mkF m 124 #[.val (.int p1), .unset, .unset, .unset] [(.ref w54), (.int (17 : Int32)), (.ref b2), (.ref b2)])) _
    refine st56 _ ?_
    show Steps p.tables e below (T56.setTop (mkF m 125 #[.val (.int p1), .unset, .unset, .unset] [(.ref b2)])) _
    refine XS.astoreN X56.here hx rfl (hb hby at_125) rfl rfl (l' := #[.val (.int p1), .val (.ref b2), .unset, .unset]) rfl ?_
    show Steps p.tables e below (T56.setTop (mkF m 126 #[.val (.int p1), .val (.ref b2), .unset, .unset] [])) _
    refine XS.iloadN X56.here hx rfl (hb hby at_126) rfl ?_
    show Steps p.tables e below (T56.setTop (mkF m 127 #[.val (.int p1), .val (.ref b2), .unset, .unset] [(.int p1)])) _
    refine ldcI X56 hx hown (mvT hZ (hw _ (List.mem_of_getElem? (i := 40) rfl))) rfl (hb hby at_127) ?_
    show Steps p.tables e below (T56.setTop (mkF m 129 #[.val (.int p1), .val (.ref b2), .unset, .unset] [(.int (2147483647 : Int32)), (.int p1)])) _
    refine XS.iand X56.here hx rfl (hb hby at_129) rfl ?_
    show Steps p.tables e below (T56.setTop (mkF m 130 #[.val (.int p1), .val (.ref b2), .unset, .unset] [(.int (p1 &&& (2147483647 : Int32)))])) _
    refine XS.bipush X56.here hx rfl (hb hby at_130) ?_
    show Steps p.tables e below (T56.setTop (mkF m 132 #[.val (.int p1), .val (.ref b2), .unset, .unset] [(.int (18 : Int32)), (.int (p1 &&& (2147483647 : Int32)))])) _
    refine iremM X56 hx rfl (hb hby at_132) rfl (by decide) ?_
    show Steps p.tables e below (T56.setTop (mkF m 133 #[.val (.int p1), .val (.ref b2), .unset, .unset] [(.int ((p1 &&& (2147483647 : Int32)) % (18 : Int32)))])) _
    refine XS.istoreN X56.here hx rfl (hb hby at_133) rfl (l' := #[.val (.int p1), .val (.ref b2), .val (.int ((p1 &&& (2147483647 : Int32)) % (18 : Int32))), .unset]) rfl ?_
    show Steps p.tables e below (T56.setTop (mkF m 134 #[.val (.int p1), .val (.ref b2), .val (.int ((p1 &&& (2147483647 : Int32)) % (18 : Int32))), .unset] [])) _
    refine XS.iloadN X56.here hx rfl (hb hby at_134) rfl ?_
    show Steps p.tables e below (T56.setTop (mkF m 135 #[.val (.int p1), .val (.ref b2), .val (.int ((p1 &&& (2147483647 : Int32)) % (18 : Int32))), .unset] [(.int ((p1 &&& (2147483647 : Int32)) % (18 : Int32)))])) _
    refine XS.iconst X56.here hx rfl (hb hby at_135) ?_
    show Steps p.tables e below (T56.setTop (mkF m 136 #[.val (.int p1), .val (.ref b2), .val (.int ((p1 &&& (2147483647 : Int32)) % (18 : Int32))), .unset] [(.int (5 : Int32)), (.int ((p1 &&& (2147483647 : Int32)) % (18 : Int32)))])) _
    refine XS.icmpNo X56.here hx rfl (hb hby at_136) rfl (feq hc136).1 ?_
    show Steps p.tables e below (T56.setTop (mkF m 139 #[.val (.int p1), .val (.ref b2), .val (.int ((p1 &&& (2147483647 : Int32)) % (18 : Int32))), .unset] [])) _
    refine XS.iloadN X56.here hx rfl (hb hby at_139) rfl ?_
    show Steps p.tables e below (T56.setTop (mkF m 140 #[.val (.int p1), .val (.ref b2), .val (.int ((p1 &&& (2147483647 : Int32)) % (18 : Int32))), .unset] [(.int ((p1 &&& (2147483647 : Int32)) % (18 : Int32)))])) _
    refine XS.bipush X56.here hx rfl (hb hby at_140) ?_
    show Steps p.tables e below (T56.setTop (mkF m 142 #[.val (.int p1), .val (.ref b2), .val (.int ((p1 &&& (2147483647 : Int32)) % (18 : Int32))), .unset] [(.int (6 : Int32)), (.int ((p1 &&& (2147483647 : Int32)) % (18 : Int32)))])) _
    refine XS.icmpYes X56.here hx rfl (pc0 := 142) (pc' := 149) rfl (hb hby at_142) rfl (feq hc142).2 (by decide) (by decide) ?_
    show Steps p.tables e below (T56.setTop (mkF m 149 #[.val (.int p1), .val (.ref b2), .val (.int ((p1 &&& (2147483647 : Int32)) % (18 : Int32))), .unset] [])) _
    refine XS.iconst X56.here hx rfl (hb hby at_149) ?_
    show Steps p.tables e below (T56.setTop (mkF m 150 #[.val (.int p1), .val (.ref b2), .val (.int ((p1 &&& (2147483647 : Int32)) % (18 : Int32))), .unset] [(.int (0 : Int32))])) _
    refine XS.istoreN X56.here hx rfl (hb hby at_150) rfl (l' := #[.val (.int p1), .val (.ref b2), .val (.int ((p1 &&& (2147483647 : Int32)) % (18 : Int32))), .val (.int (0 : Int32))]) rfl ?_
    show Steps p.tables e below (T56.setTop (mkF m 151 #[.val (.int p1), .val (.ref b2), .val (.int ((p1 &&& (2147483647 : Int32)) % (18 : Int32))), .val (.int (0 : Int32))] [])) _
    refine XS.aloadN X56.here hx rfl (hb hby at_151) rfl rfl ?_
    show Steps p.tables e below (T56.setTop (mkF m 152 #[.val (.int p1), .val (.ref b2), .val (.int ((p1 &&& (2147483647 : Int32)) % (18 : Int32))), .val (.int (0 : Int32))] [(.ref b2)])) _
    refine XS.iloadN X56.here hx rfl (hb hby at_152) rfl ?_
    show Steps p.tables e below (T56.setTop (mkF m 153 #[.val (.int p1), .val (.ref b2), .val (.int ((p1 &&& (2147483647 : Int32)) % (18 : Int32))), .val (.int (0 : Int32))] [(.int ((p1 &&& (2147483647 : Int32)) % (18 : Int32))), (.ref b2)])) _
    refine X56.aaload hx (j := ((p1 &&& (2147483647 : Int32)) % (18 : Int32))) (v := (.ref w57)) (by rw [e56]; exact Ar_b2_153.1) (State.isArrayOf_alike hZ.alike Ar_b2_153.2.1) rfl Ar_b2_153.2.2 hin153 hat153 (g := (mkF m 153 #[.val (.int p1), .val (.ref b2), .val (.int ((p1 &&& (2147483647 : Int32)) % (18 : Int32))), .val (.int (0 : Int32))] [(.int ((p1 &&& (2147483647 : Int32)) % (18 : Int32))), (.ref b2)])) rfl rfl (hb hby at_153) _ ?_
    show Steps p.tables e below (T56.setTop (mkF m 154 #[.val (.int p1), .val (.ref b2), .val (.int ((p1 &&& (2147483647 : Int32)) % (18 : Int32))), .val (.int (0 : Int32))] [(.ref w57)])) _
    refine st58.trans ?_
    show Steps p.tables e below (T58.setTop (mkF m 157 #[.val (.int p1), .val (.ref b2), .val (.int ((p1 &&& (2147483647 : Int32)) % (18 : Int32))), .val (.int (0 : Int32))] [(.int (0 : Int32))])) _
    refine XS.iloadN X58.here hx rfl (hb hby at_157) rfl ?_
    show Steps p.tables e below (T58.setTop (mkF m 158 #[.val (.int p1), .val (.ref b2), .val (.int ((p1 &&& (2147483647 : Int32)) % (18 : Int32))), .val (.int (0 : Int32))] [(.int (0 : Int32)), (.int (0 : Int32))])) _
    refine XS.icmpNo X58.here hx rfl (hb hby at_158) rfl (teq (rfl : (0 : Int32) = (0 : Int32))).2 ?_
    show Steps p.tables e below (T58.setTop (mkF m 161 #[.val (.int p1), .val (.ref b2), .val (.int ((p1 &&& (2147483647 : Int32)) % (18 : Int32))), .val (.int (0 : Int32))] [])) _
    refine XS.iconst X58.here hx rfl (hb hby at_161) ?_
    show Steps p.tables e below (T58.setTop (mkF m 162 #[.val (.int p1), .val (.ref b2), .val (.int ((p1 &&& (2147483647 : Int32)) % (18 : Int32))), .val (.int (0 : Int32))] [(.int (1 : Int32))])) _
    refine XS.goto X58.here hx rfl (pc0 := 162) (pc' := 166) rfl (hb hby at_162) (by decide) (by decide) ?_
    show Steps p.tables e below (T58.setTop (mkF m 166 #[.val (.int p1), .val (.ref b2), .val (.int ((p1 &&& (2147483647 : Int32)) % (18 : Int32))), .val (.int (0 : Int32))] [(.int (1 : Int32))])) _
    exact retN X58 hx (t := .boolean) Bd.returns (by simp) (hb hby at_166) hr
  · show Q0 n0 _ T58.heap _
    rw [eq58]
    exact ⟨rfl, N58⟩

theorem rm0 (l : Launch) (Z : State) (a0 : Array Value) (hw : ∀ d ∈ tables_1, d.before a0 Z = true) (ws : List Jvm.Cond) (p1 : Int32) (w3 w6 w9 w12 w15 w18 w21 w24 w27 w30 w33 w36 w39 w42 w45 w48 w51 w54 : Addr) (h0 : Heap) (n0 : Nat) (Z0 : n0 ≤ h0.size) (S0 : Sta Z h0 "com/example/open_frontier/openfrontier/frontend/Expression$BinaryOperator" "MULTIPLY" "Lcom/example/open_frontier/openfrontier/frontend/Expression$BinaryOperator;" (.ref w3)) (E0 : Exa Z h0 w3 "com/example/open_frontier/openfrontier/frontend/Expression$BinaryOperator") (O0 : Fld Z h0 w3 "java/lang/Enum" "ordinal" "I" (.int (0 : Int32))) (S1 : Sta Z h0 "com/example/open_frontier/openfrontier/frontend/Expression$BinaryOperator" "DIVIDE" "Lcom/example/open_frontier/openfrontier/frontend/Expression$BinaryOperator;" (.ref w6)) (E1 : Exa Z h0 w6 "com/example/open_frontier/openfrontier/frontend/Expression$BinaryOperator") (O1 : Fld Z h0 w6 "java/lang/Enum" "ordinal" "I" (.int (1 : Int32))) (S2 : Sta Z h0 "com/example/open_frontier/openfrontier/frontend/Expression$BinaryOperator" "REMAINDER" "Lcom/example/open_frontier/openfrontier/frontend/Expression$BinaryOperator;" (.ref w9)) (E2 : Exa Z h0 w9 "com/example/open_frontier/openfrontier/frontend/Expression$BinaryOperator") (O2 : Fld Z h0 w9 "java/lang/Enum" "ordinal" "I" (.int (2 : Int32))) (S3 : Sta Z h0 "com/example/open_frontier/openfrontier/frontend/Expression$BinaryOperator" "ADD" "Lcom/example/open_frontier/openfrontier/frontend/Expression$BinaryOperator;" (.ref w12)) (E3 : Exa Z h0 w12 "com/example/open_frontier/openfrontier/frontend/Expression$BinaryOperator") (O3 : Fld Z h0 w12 "java/lang/Enum" "ordinal" "I" (.int (3 : Int32))) (S4 : Sta Z h0 "com/example/open_frontier/openfrontier/frontend/Expression$BinaryOperator" "SUBTRACT" "Lcom/example/open_frontier/openfrontier/frontend/Expression$BinaryOperator;" (.ref w15)) (E4 : Exa Z h0 w15 "com/example/open_frontier/openfrontier/frontend/Expression$BinaryOperator") (O4 : Fld Z h0 w15 "java/lang/Enum" "ordinal" "I" (.int (4 : Int32))) (S5 : Sta Z h0 "com/example/open_frontier/openfrontier/frontend/Expression$BinaryOperator" "SHIFT_LEFT" "Lcom/example/open_frontier/openfrontier/frontend/Expression$BinaryOperator;" (.ref w18)) (E5 : Exa Z h0 w18 "com/example/open_frontier/openfrontier/frontend/Expression$BinaryOperator") (O5 : Fld Z h0 w18 "java/lang/Enum" "ordinal" "I" (.int (5 : Int32))) (S6 : Sta Z h0 "com/example/open_frontier/openfrontier/frontend/Expression$BinaryOperator" "SHIFT_RIGHT" "Lcom/example/open_frontier/openfrontier/frontend/Expression$BinaryOperator;" (.ref w21)) (E6 : Exa Z h0 w21 "com/example/open_frontier/openfrontier/frontend/Expression$BinaryOperator") (O6 : Fld Z h0 w21 "java/lang/Enum" "ordinal" "I" (.int (6 : Int32))) (S7 : Sta Z h0 "com/example/open_frontier/openfrontier/frontend/Expression$BinaryOperator" "LESS" "Lcom/example/open_frontier/openfrontier/frontend/Expression$BinaryOperator;" (.ref w24)) (E7 : Exa Z h0 w24 "com/example/open_frontier/openfrontier/frontend/Expression$BinaryOperator") (O7 : Fld Z h0 w24 "java/lang/Enum" "ordinal" "I" (.int (7 : Int32))) (S8 : Sta Z h0 "com/example/open_frontier/openfrontier/frontend/Expression$BinaryOperator" "GREATER" "Lcom/example/open_frontier/openfrontier/frontend/Expression$BinaryOperator;" (.ref w27)) (E8 : Exa Z h0 w27 "com/example/open_frontier/openfrontier/frontend/Expression$BinaryOperator") (O8 : Fld Z h0 w27 "java/lang/Enum" "ordinal" "I" (.int (8 : Int32))) (S9 : Sta Z h0 "com/example/open_frontier/openfrontier/frontend/Expression$BinaryOperator" "LESS_EQUAL" "Lcom/example/open_frontier/openfrontier/frontend/Expression$BinaryOperator;" (.ref w30)) (E9 : Exa Z h0 w30 "com/example/open_frontier/openfrontier/frontend/Expression$BinaryOperator") (O9 : Fld Z h0 w30 "java/lang/Enum" "ordinal" "I" (.int (9 : Int32))) (S10 : Sta Z h0 "com/example/open_frontier/openfrontier/frontend/Expression$BinaryOperator" "GREATER_EQUAL" "Lcom/example/open_frontier/openfrontier/frontend/Expression$BinaryOperator;" (.ref w33)) (E10 : Exa Z h0 w33 "com/example/open_frontier/openfrontier/frontend/Expression$BinaryOperator") (O10 : Fld Z h0 w33 "java/lang/Enum" "ordinal" "I" (.int (10 : Int32))) (S11 : Sta Z h0 "com/example/open_frontier/openfrontier/frontend/Expression$BinaryOperator" "EQUAL" "Lcom/example/open_frontier/openfrontier/frontend/Expression$BinaryOperator;" (.ref w36)) (E11 : Exa Z h0 w36 "com/example/open_frontier/openfrontier/frontend/Expression$BinaryOperator") (O11 : Fld Z h0 w36 "java/lang/Enum" "ordinal" "I" (.int (11 : Int32))) (S12 : Sta Z h0 "com/example/open_frontier/openfrontier/frontend/Expression$BinaryOperator" "NOT_EQUAL" "Lcom/example/open_frontier/openfrontier/frontend/Expression$BinaryOperator;" (.ref w39)) (E12 : Exa Z h0 w39 "com/example/open_frontier/openfrontier/frontend/Expression$BinaryOperator") (O12 : Fld Z h0 w39 "java/lang/Enum" "ordinal" "I" (.int (12 : Int32))) (S13 : Sta Z h0 "com/example/open_frontier/openfrontier/frontend/Expression$BinaryOperator" "BIT_AND" "Lcom/example/open_frontier/openfrontier/frontend/Expression$BinaryOperator;" (.ref w42)) (E13 : Exa Z h0 w42 "com/example/open_frontier/openfrontier/frontend/Expression$BinaryOperator") (O13 : Fld Z h0 w42 "java/lang/Enum" "ordinal" "I" (.int (13 : Int32))) (S14 : Sta Z h0 "com/example/open_frontier/openfrontier/frontend/Expression$BinaryOperator" "BIT_XOR" "Lcom/example/open_frontier/openfrontier/frontend/Expression$BinaryOperator;" (.ref w45)) (E14 : Exa Z h0 w45 "com/example/open_frontier/openfrontier/frontend/Expression$BinaryOperator") (O14 : Fld Z h0 w45 "java/lang/Enum" "ordinal" "I" (.int (14 : Int32))) (S15 : Sta Z h0 "com/example/open_frontier/openfrontier/frontend/Expression$BinaryOperator" "BIT_OR" "Lcom/example/open_frontier/openfrontier/frontend/Expression$BinaryOperator;" (.ref w48)) (E15 : Exa Z h0 w48 "com/example/open_frontier/openfrontier/frontend/Expression$BinaryOperator") (O15 : Fld Z h0 w48 "java/lang/Enum" "ordinal" "I" (.int (15 : Int32))) (S16 : Sta Z h0 "com/example/open_frontier/openfrontier/frontend/Expression$BinaryOperator" "LOGICAL_AND" "Lcom/example/open_frontier/openfrontier/frontend/Expression$BinaryOperator;" (.ref w51)) (E16 : Exa Z h0 w51 "com/example/open_frontier/openfrontier/frontend/Expression$BinaryOperator") (O16 : Fld Z h0 w51 "java/lang/Enum" "ordinal" "I" (.int (16 : Int32))) (S17 : Sta Z h0 "com/example/open_frontier/openfrontier/frontend/Expression$BinaryOperator" "LOGICAL_OR" "Lcom/example/open_frontier/openfrontier/frontend/Expression$BinaryOperator;" (.ref w54)) (E17 : Exa Z h0 w54 "com/example/open_frontier/openfrontier/frontend/Expression$BinaryOperator") (O17 : Fld Z h0 w54 "java/lang/Enum" "ordinal" "I" (.int (17 : Int32))) :
    MetFree l x (head1 (Jvm.Cond.code x code maxLocals ret :: ws) room_1) (fun a U => a = #[(.int p1)] ∧ Z.Warmed39 U.vm ∧ U.heap = h0) (fun _ _ _ _ _ => True) (fun _ U o U' => ∃ v L, o = .returned v ∧ Q0 n0 v U'.heap L ∧ FrameEnd U o U' L room_1.cells room_1.slots) := by
  by_cases c0 : ((p1 &&& (2147483647 : Int32)) % (18 : Int32)) = (0 : Int32)
  · exact rm0_2 l Z a0 hw ws p1 w3 w6 w9 w12 w15 w18 w21 w24 w27 w30 w33 w36 w39 w42 w45 w48 w51 w54 w3 h0 n0 Z0 S0 E0 S1 E1 S2 E2 S3 E3 S4 E4 S5 E5 S6 E6 S7 E7 S8 E8 S9 E9 S10 E10 S11 E11 S12 E12 S13 E13 S14 E14 S15 E15 S16 E16 S17 E17 (by rw [c0]; decide) (by rw [c0]; rfl) E0 (Or.inr ⟨rfl, own_ne O0 O5 (by decide), own_ne O0 O6 (by decide)⟩) (by rw [c0]; decide) (by rw [c0]; decide)
  by_cases c1 : ((p1 &&& (2147483647 : Int32)) % (18 : Int32)) = (1 : Int32)
  · exact rm0_2 l Z a0 hw ws p1 w3 w6 w9 w12 w15 w18 w21 w24 w27 w30 w33 w36 w39 w42 w45 w48 w51 w54 w6 h0 n0 Z0 S0 E0 S1 E1 S2 E2 S3 E3 S4 E4 S5 E5 S6 E6 S7 E7 S8 E8 S9 E9 S10 E10 S11 E11 S12 E12 S13 E13 S14 E14 S15 E15 S16 E16 S17 E17 (by rw [c1]; decide) (by rw [c1]; rfl) E1 (Or.inr ⟨rfl, own_ne O1 O5 (by decide), own_ne O1 O6 (by decide)⟩) (by rw [c1]; decide) (by rw [c1]; decide)
  by_cases c2 : ((p1 &&& (2147483647 : Int32)) % (18 : Int32)) = (2 : Int32)
  · exact rm0_2 l Z a0 hw ws p1 w3 w6 w9 w12 w15 w18 w21 w24 w27 w30 w33 w36 w39 w42 w45 w48 w51 w54 w9 h0 n0 Z0 S0 E0 S1 E1 S2 E2 S3 E3 S4 E4 S5 E5 S6 E6 S7 E7 S8 E8 S9 E9 S10 E10 S11 E11 S12 E12 S13 E13 S14 E14 S15 E15 S16 E16 S17 E17 (by rw [c2]; decide) (by rw [c2]; rfl) E2 (Or.inr ⟨rfl, own_ne O2 O5 (by decide), own_ne O2 O6 (by decide)⟩) (by rw [c2]; decide) (by rw [c2]; decide)
  by_cases c3 : ((p1 &&& (2147483647 : Int32)) % (18 : Int32)) = (3 : Int32)
  · exact rm0_2 l Z a0 hw ws p1 w3 w6 w9 w12 w15 w18 w21 w24 w27 w30 w33 w36 w39 w42 w45 w48 w51 w54 w12 h0 n0 Z0 S0 E0 S1 E1 S2 E2 S3 E3 S4 E4 S5 E5 S6 E6 S7 E7 S8 E8 S9 E9 S10 E10 S11 E11 S12 E12 S13 E13 S14 E14 S15 E15 S16 E16 S17 E17 (by rw [c3]; decide) (by rw [c3]; rfl) E3 (Or.inr ⟨rfl, own_ne O3 O5 (by decide), own_ne O3 O6 (by decide)⟩) (by rw [c3]; decide) (by rw [c3]; decide)
  by_cases c4 : ((p1 &&& (2147483647 : Int32)) % (18 : Int32)) = (4 : Int32)
  · exact rm0_2 l Z a0 hw ws p1 w3 w6 w9 w12 w15 w18 w21 w24 w27 w30 w33 w36 w39 w42 w45 w48 w51 w54 w15 h0 n0 Z0 S0 E0 S1 E1 S2 E2 S3 E3 S4 E4 S5 E5 S6 E6 S7 E7 S8 E8 S9 E9 S10 E10 S11 E11 S12 E12 S13 E13 S14 E14 S15 E15 S16 E16 S17 E17 (by rw [c4]; decide) (by rw [c4]; rfl) E4 (Or.inr ⟨rfl, own_ne O4 O5 (by decide), own_ne O4 O6 (by decide)⟩) (by rw [c4]; decide) (by rw [c4]; decide)
  by_cases c5 : ((p1 &&& (2147483647 : Int32)) % (18 : Int32)) = (5 : Int32)
  · exact rm0_0 l Z a0 hw ws p1 w3 w6 w9 w12 w15 w18 w21 w24 w27 w30 w33 w36 w39 w42 w45 w48 w51 w54 w18 h0 n0 Z0 S0 E0 S1 E1 S2 E2 S3 E3 S4 E4 S5 E5 S6 E6 S7 E7 S8 E8 S9 E9 S10 E10 S11 E11 S12 E12 S13 E13 S14 E14 S15 E15 S16 E16 S17 E17 (by rw [c5]; decide) (by rw [c5]; rfl) E5 (Or.inl ⟨rfl, Or.inl rfl⟩) c5
  by_cases c6 : ((p1 &&& (2147483647 : Int32)) % (18 : Int32)) = (6 : Int32)
  · exact rm0_1 l Z a0 hw ws p1 w3 w6 w9 w12 w15 w18 w21 w24 w27 w30 w33 w36 w39 w42 w45 w48 w51 w54 w21 h0 n0 Z0 S0 E0 S1 E1 S2 E2 S3 E3 S4 E4 S5 E5 S6 E6 S7 E7 S8 E8 S9 E9 S10 E10 S11 E11 S12 E12 S13 E13 S14 E14 S15 E15 S16 E16 S17 E17 (by rw [c6]; decide) (by rw [c6]; rfl) E6 (Or.inl ⟨rfl, Or.inr rfl⟩) (by rw [c6]; decide) c6
  by_cases c7 : ((p1 &&& (2147483647 : Int32)) % (18 : Int32)) = (7 : Int32)
  · exact rm0_2 l Z a0 hw ws p1 w3 w6 w9 w12 w15 w18 w21 w24 w27 w30 w33 w36 w39 w42 w45 w48 w51 w54 w24 h0 n0 Z0 S0 E0 S1 E1 S2 E2 S3 E3 S4 E4 S5 E5 S6 E6 S7 E7 S8 E8 S9 E9 S10 E10 S11 E11 S12 E12 S13 E13 S14 E14 S15 E15 S16 E16 S17 E17 (by rw [c7]; decide) (by rw [c7]; rfl) E7 (Or.inr ⟨rfl, own_ne O7 O5 (by decide), own_ne O7 O6 (by decide)⟩) (by rw [c7]; decide) (by rw [c7]; decide)
  by_cases c8 : ((p1 &&& (2147483647 : Int32)) % (18 : Int32)) = (8 : Int32)
  · exact rm0_2 l Z a0 hw ws p1 w3 w6 w9 w12 w15 w18 w21 w24 w27 w30 w33 w36 w39 w42 w45 w48 w51 w54 w27 h0 n0 Z0 S0 E0 S1 E1 S2 E2 S3 E3 S4 E4 S5 E5 S6 E6 S7 E7 S8 E8 S9 E9 S10 E10 S11 E11 S12 E12 S13 E13 S14 E14 S15 E15 S16 E16 S17 E17 (by rw [c8]; decide) (by rw [c8]; rfl) E8 (Or.inr ⟨rfl, own_ne O8 O5 (by decide), own_ne O8 O6 (by decide)⟩) (by rw [c8]; decide) (by rw [c8]; decide)
  by_cases c9 : ((p1 &&& (2147483647 : Int32)) % (18 : Int32)) = (9 : Int32)
  · exact rm0_2 l Z a0 hw ws p1 w3 w6 w9 w12 w15 w18 w21 w24 w27 w30 w33 w36 w39 w42 w45 w48 w51 w54 w30 h0 n0 Z0 S0 E0 S1 E1 S2 E2 S3 E3 S4 E4 S5 E5 S6 E6 S7 E7 S8 E8 S9 E9 S10 E10 S11 E11 S12 E12 S13 E13 S14 E14 S15 E15 S16 E16 S17 E17 (by rw [c9]; decide) (by rw [c9]; rfl) E9 (Or.inr ⟨rfl, own_ne O9 O5 (by decide), own_ne O9 O6 (by decide)⟩) (by rw [c9]; decide) (by rw [c9]; decide)
  by_cases c10 : ((p1 &&& (2147483647 : Int32)) % (18 : Int32)) = (10 : Int32)
  · exact rm0_2 l Z a0 hw ws p1 w3 w6 w9 w12 w15 w18 w21 w24 w27 w30 w33 w36 w39 w42 w45 w48 w51 w54 w33 h0 n0 Z0 S0 E0 S1 E1 S2 E2 S3 E3 S4 E4 S5 E5 S6 E6 S7 E7 S8 E8 S9 E9 S10 E10 S11 E11 S12 E12 S13 E13 S14 E14 S15 E15 S16 E16 S17 E17 (by rw [c10]; decide) (by rw [c10]; rfl) E10 (Or.inr ⟨rfl, own_ne O10 O5 (by decide), own_ne O10 O6 (by decide)⟩) (by rw [c10]; decide) (by rw [c10]; decide)
  by_cases c11 : ((p1 &&& (2147483647 : Int32)) % (18 : Int32)) = (11 : Int32)
  · exact rm0_2 l Z a0 hw ws p1 w3 w6 w9 w12 w15 w18 w21 w24 w27 w30 w33 w36 w39 w42 w45 w48 w51 w54 w36 h0 n0 Z0 S0 E0 S1 E1 S2 E2 S3 E3 S4 E4 S5 E5 S6 E6 S7 E7 S8 E8 S9 E9 S10 E10 S11 E11 S12 E12 S13 E13 S14 E14 S15 E15 S16 E16 S17 E17 (by rw [c11]; decide) (by rw [c11]; rfl) E11 (Or.inr ⟨rfl, own_ne O11 O5 (by decide), own_ne O11 O6 (by decide)⟩) (by rw [c11]; decide) (by rw [c11]; decide)
  by_cases c12 : ((p1 &&& (2147483647 : Int32)) % (18 : Int32)) = (12 : Int32)
  · exact rm0_2 l Z a0 hw ws p1 w3 w6 w9 w12 w15 w18 w21 w24 w27 w30 w33 w36 w39 w42 w45 w48 w51 w54 w39 h0 n0 Z0 S0 E0 S1 E1 S2 E2 S3 E3 S4 E4 S5 E5 S6 E6 S7 E7 S8 E8 S9 E9 S10 E10 S11 E11 S12 E12 S13 E13 S14 E14 S15 E15 S16 E16 S17 E17 (by rw [c12]; decide) (by rw [c12]; rfl) E12 (Or.inr ⟨rfl, own_ne O12 O5 (by decide), own_ne O12 O6 (by decide)⟩) (by rw [c12]; decide) (by rw [c12]; decide)
  by_cases c13 : ((p1 &&& (2147483647 : Int32)) % (18 : Int32)) = (13 : Int32)
  · exact rm0_2 l Z a0 hw ws p1 w3 w6 w9 w12 w15 w18 w21 w24 w27 w30 w33 w36 w39 w42 w45 w48 w51 w54 w42 h0 n0 Z0 S0 E0 S1 E1 S2 E2 S3 E3 S4 E4 S5 E5 S6 E6 S7 E7 S8 E8 S9 E9 S10 E10 S11 E11 S12 E12 S13 E13 S14 E14 S15 E15 S16 E16 S17 E17 (by rw [c13]; decide) (by rw [c13]; rfl) E13 (Or.inr ⟨rfl, own_ne O13 O5 (by decide), own_ne O13 O6 (by decide)⟩) (by rw [c13]; decide) (by rw [c13]; decide)
  by_cases c14 : ((p1 &&& (2147483647 : Int32)) % (18 : Int32)) = (14 : Int32)
  · exact rm0_2 l Z a0 hw ws p1 w3 w6 w9 w12 w15 w18 w21 w24 w27 w30 w33 w36 w39 w42 w45 w48 w51 w54 w45 h0 n0 Z0 S0 E0 S1 E1 S2 E2 S3 E3 S4 E4 S5 E5 S6 E6 S7 E7 S8 E8 S9 E9 S10 E10 S11 E11 S12 E12 S13 E13 S14 E14 S15 E15 S16 E16 S17 E17 (by rw [c14]; decide) (by rw [c14]; rfl) E14 (Or.inr ⟨rfl, own_ne O14 O5 (by decide), own_ne O14 O6 (by decide)⟩) (by rw [c14]; decide) (by rw [c14]; decide)
  by_cases c15 : ((p1 &&& (2147483647 : Int32)) % (18 : Int32)) = (15 : Int32)
  · exact rm0_2 l Z a0 hw ws p1 w3 w6 w9 w12 w15 w18 w21 w24 w27 w30 w33 w36 w39 w42 w45 w48 w51 w54 w48 h0 n0 Z0 S0 E0 S1 E1 S2 E2 S3 E3 S4 E4 S5 E5 S6 E6 S7 E7 S8 E8 S9 E9 S10 E10 S11 E11 S12 E12 S13 E13 S14 E14 S15 E15 S16 E16 S17 E17 (by rw [c15]; decide) (by rw [c15]; rfl) E15 (Or.inr ⟨rfl, own_ne O15 O5 (by decide), own_ne O15 O6 (by decide)⟩) (by rw [c15]; decide) (by rw [c15]; decide)
  by_cases c16 : ((p1 &&& (2147483647 : Int32)) % (18 : Int32)) = (16 : Int32)
  · exact rm0_2 l Z a0 hw ws p1 w3 w6 w9 w12 w15 w18 w21 w24 w27 w30 w33 w36 w39 w42 w45 w48 w51 w54 w51 h0 n0 Z0 S0 E0 S1 E1 S2 E2 S3 E3 S4 E4 S5 E5 S6 E6 S7 E7 S8 E8 S9 E9 S10 E10 S11 E11 S12 E12 S13 E13 S14 E14 S15 E15 S16 E16 S17 E17 (by rw [c16]; decide) (by rw [c16]; rfl) E16 (Or.inr ⟨rfl, own_ne O16 O5 (by decide), own_ne O16 O6 (by decide)⟩) (by rw [c16]; decide) (by rw [c16]; decide)
  have c17 := own_last (own_mod p1 18 18 (by decide) (by decide)) c0 c1 c2 c3 c4 c5 c6 c7 c8 c9 c10 c11 c12 c13 c14 c15 c16
  exact rm0_2 l Z a0 hw ws p1 w3 w6 w9 w12 w15 w18 w21 w24 w27 w30 w33 w36 w39 w42 w45 w48 w51 w54 w54 h0 n0 Z0 S0 E0 S1 E1 S2 E2 S3 E3 S4 E4 S5 E5 S6 E6 S7 E7 S8 E8 S9 E9 S10 E10 S11 E11 S12 E12 S13 E13 S14 E14 S15 E15 S16 E16 S17 E17 (by rw [c17]; decide) (by rw [c17]; rfl) E17 (Or.inr ⟨rfl, own_ne O17 O5 (by decide), own_ne O17 O6 (by decide)⟩) (by rw [c17]; decide) (by rw [c17]; decide)

set_option maxRecDepth 65536 in
set_option maxHeartbeats 40000000 in
theorem comes_1 {Post : Tables → Env → Array Value → State → Outcome → State → Prop} (hpost : ∀ tb e args s v u, (limb_1_1.after args s (.returned v) u = true ∧ limb_1_2.after args s (.returned v) u = true ∧ True) → FrameEnd s (.returned v) u (Jvm.fieldLocs frame_1_writes args s ++ Jvm.arrayLocs frame_1_arrays args s ++ Jvm.staticLocs frame_1_statics s) 16 128 → Post tb e args s (.returned v) u) :
    ArmFor flags0 classFile x code maxLocals ret World_1 tables_1 room_1 Calls_1 rest_1 Pre_1 Post := by
  intro l hfl _ _ p e ha hc hk s m args below hf hA hF happ hP
  obtain ⟨hcalls, hrest, hpre⟩ := hP
  obtain ⟨-, -, -, hnamed, -, -, -, hat⟩ := (Spec.applies_iff hf).mp happ
  obtain ⟨hg, hn⟩ := and_e (Cond.before_iff.mp (show (Jvm.Cond.and given_1 narrow_1).before args s = true from hpre))
  obtain ⟨g59, g60⟩ := and_e hg
  obtain ⟨w0, rfl⟩ : ∃ w0 : Value, args = #[w0] := by
    have hs : args.size = 1 := by simpa [Cond.value, given_1] using g59
    obtain ⟨L⟩ := args
    match L, hs with
    | [w0], _ => exact ⟨w0, rfl⟩
  have hw := fun d (hd : d ∈ tables_1) => atoms_spec (ws := Jvm.Cond.code x code maxLocals ret :: tables_1) hat d (List.mem_cons_of_mem _ hd)
  have hfit : Fit s := fun {y c} hc i hi => by
    obtain ⟨ha, rfl⟩ := Array.getElem?_eq_some_iff.mp hc
    have q := List.all_eq_true.mp ((Array.all_eq_true_iff_forall_mem.mp hF) _ (Array.getElem_mem ha)) i (List.mem_range.mpr hi)
    simpa [Array.getElem?_eq_getElem hi] using q
  obtain ⟨i0, ei0⟩ := is_v g60
  obtain rfl : w0 = (.int i0) := Option.some.inj ei0
  obtain ⟨n0, hn⟩ := and_e hn
  obtain ⟨n1, hn⟩ := and_e hn
  obtain ⟨n2, hn⟩ := and_e hn
  obtain ⟨n3, hn⟩ := and_e hn
  obtain ⟨n4, hn⟩ := and_e hn
  obtain ⟨n5, hn⟩ := and_e hn
  obtain ⟨n6, hn⟩ := and_e hn
  obtain ⟨n7, hn⟩ := and_e hn
  obtain ⟨n8, hn⟩ := and_e hn
  obtain ⟨n9, hn⟩ := and_e hn
  obtain ⟨n10, hn⟩ := and_e hn
  obtain ⟨n11, hn⟩ := and_e hn
  obtain ⟨n12, hn⟩ := and_e hn
  obtain ⟨n13, hn⟩ := and_e hn
  obtain ⟨n14, hn⟩ := and_e hn
  obtain ⟨n15, hn⟩ := and_e hn
  obtain ⟨n16, hn⟩ := and_e hn
  obtain ⟨n17, hn⟩ := and_e hn
  obtain ⟨n18, hn⟩ := and_e hn
  obtain ⟨n19, hn⟩ := and_e hn
  obtain ⟨n20, hn⟩ := and_e hn
  obtain ⟨n21, hn⟩ := and_e hn
  obtain ⟨n22, hn⟩ := and_e hn
  obtain ⟨n23, hn⟩ := and_e hn
  obtain ⟨n24, hn⟩ := and_e hn
  obtain ⟨n25, hn⟩ := and_e hn
  obtain ⟨n26, hn⟩ := and_e hn
  obtain ⟨n27, hn⟩ := and_e hn
  obtain ⟨n28, hn⟩ := and_e hn
  obtain ⟨n29, hn⟩ := and_e hn
  obtain ⟨n30, hn⟩ := and_e hn
  obtain ⟨n31, hn⟩ := and_e hn
  obtain ⟨n32, hn⟩ := and_e hn
  obtain ⟨n33, hn⟩ := and_e hn
  obtain ⟨n34, hn⟩ := and_e hn
  have n35 := hn
  obtain ⟨b0, eb0⟩ := exa_v n0
  obtain ⟨b1, eb1⟩ := exa_v n1
  obtain ⟨b2, eb2⟩ := exa_v n2
  obtain ⟨b3, eb3⟩ := exa_v n3
  obtain ⟨b4, eb4⟩ := exa_v n4
  obtain ⟨b5, eb5⟩ := exa_v n5
  obtain ⟨b6, eb6⟩ := exa_v n6
  obtain ⟨b7, eb7⟩ := exa_v n7
  obtain ⟨b8, eb8⟩ := exa_v n8
  obtain ⟨b9, eb9⟩ := exa_v n9
  obtain ⟨b10, eb10⟩ := exa_v n10
  obtain ⟨b11, eb11⟩ := exa_v n11
  obtain ⟨b12, eb12⟩ := exa_v n12
  obtain ⟨b13, eb13⟩ := exa_v n13
  obtain ⟨b14, eb14⟩ := exa_v n14
  obtain ⟨b15, eb15⟩ := exa_v n15
  obtain ⟨b16, eb16⟩ := exa_v n16
  obtain ⟨b17, eb17⟩ := exa_v n17
  obtain ⟨n, o, h1, h2, h3, _, L, rfl, ⟨rfl, N⟩, hq⟩ := rm0 l s _ hw tables_1 i0 b0 b1 b2 b3 b4 b5 b6 b7 b8 b9 b10 b11 b12 b13 b14 b15 b16 b17 s.heap s.heap.size (Nat.le_refl _) (Sta.start eb0 (Or.inr ⟨(hw _ (List.mem_of_getElem? (i := 3) rfl)), (hw _ (List.mem_of_getElem? (i := 4) rfl))⟩)) (Exa.start eb0 n0) (own_fldI eb0 n18) (Sta.start eb1 (Or.inr ⟨(hw _ (List.mem_of_getElem? (i := 3) rfl)), (hw _ (List.mem_of_getElem? (i := 7) rfl))⟩)) (Exa.start eb1 n1) (own_fldI eb1 n23) (Sta.start eb2 (Or.inr ⟨(hw _ (List.mem_of_getElem? (i := 3) rfl)), (hw _ (List.mem_of_getElem? (i := 9) rfl))⟩)) (Exa.start eb2 n2) (own_fldI eb2 n22) (Sta.start eb3 (Or.inr ⟨(hw _ (List.mem_of_getElem? (i := 3) rfl)), (hw _ (List.mem_of_getElem? (i := 11) rfl))⟩)) (Exa.start eb3 n3) (own_fldI eb3 n21) (Sta.start eb4 (Or.inr ⟨(hw _ (List.mem_of_getElem? (i := 3) rfl)), (hw _ (List.mem_of_getElem? (i := 13) rfl))⟩)) (Exa.start eb4 n4) (own_fldI eb4 n26) (Sta.start eb5 (Or.inr ⟨(hw _ (List.mem_of_getElem? (i := 3) rfl)), (hw _ (List.mem_of_getElem? (i := 15) rfl))⟩)) (Exa.start eb5 n5) (own_fldI eb5 n19) (Sta.start eb6 (Or.inr ⟨(hw _ (List.mem_of_getElem? (i := 3) rfl)), (hw _ (List.mem_of_getElem? (i := 17) rfl))⟩)) (Exa.start eb6 n6) (own_fldI eb6 n20) (Sta.start eb7 (Or.inr ⟨(hw _ (List.mem_of_getElem? (i := 3) rfl)), (hw _ (List.mem_of_getElem? (i := 19) rfl))⟩)) (Exa.start eb7 n7) (own_fldI eb7 n24) (Sta.start eb8 (Or.inr ⟨(hw _ (List.mem_of_getElem? (i := 3) rfl)), (hw _ (List.mem_of_getElem? (i := 21) rfl))⟩)) (Exa.start eb8 n8) (own_fldI eb8 n27) (Sta.start eb9 (Or.inr ⟨(hw _ (List.mem_of_getElem? (i := 3) rfl)), (hw _ (List.mem_of_getElem? (i := 23) rfl))⟩)) (Exa.start eb9 n9) (own_fldI eb9 n35) (Sta.start eb10 (Or.inr ⟨(hw _ (List.mem_of_getElem? (i := 3) rfl)), (hw _ (List.mem_of_getElem? (i := 25) rfl))⟩)) (Exa.start eb10 n10) (own_fldI eb10 n31) (Sta.start eb11 (Or.inr ⟨(hw _ (List.mem_of_getElem? (i := 3) rfl)), (hw _ (List.mem_of_getElem? (i := 27) rfl))⟩)) (Exa.start eb11 n11) (own_fldI eb11 n25) (Sta.start eb12 (Or.inr ⟨(hw _ (List.mem_of_getElem? (i := 3) rfl)), (hw _ (List.mem_of_getElem? (i := 29) rfl))⟩)) (Exa.start eb12 n12) (own_fldI eb12 n28) (Sta.start eb13 (Or.inr ⟨(hw _ (List.mem_of_getElem? (i := 3) rfl)), (hw _ (List.mem_of_getElem? (i := 31) rfl))⟩)) (Exa.start eb13 n13) (own_fldI eb13 n32) (Sta.start eb14 (Or.inr ⟨(hw _ (List.mem_of_getElem? (i := 3) rfl)), (hw _ (List.mem_of_getElem? (i := 33) rfl))⟩)) (Exa.start eb14 n14) (own_fldI eb14 n34) (Sta.start eb15 (Or.inr ⟨(hw _ (List.mem_of_getElem? (i := 3) rfl)), (hw _ (List.mem_of_getElem? (i := 35) rfl))⟩)) (Exa.start eb15 n15) (own_fldI eb15 n30) (Sta.start eb16 (Or.inr ⟨(hw _ (List.mem_of_getElem? (i := 3) rfl)), (hw _ (List.mem_of_getElem? (i := 37) rfl))⟩)) (Exa.start eb16 n16) (own_fldI eb16 n29) (Sta.start eb17 (Or.inr ⟨(hw _ (List.mem_of_getElem? (i := 3) rfl)), (hw _ (List.mem_of_getElem? (i := 39) rfl))⟩)) (Exa.start eb17 n17) (own_fldI eb17 n33) p e ha hc hk s m _ below hf ((Spec.applies_iff_loose hf).mp happ).1 ⟨rfl, State.Warmed39.refl s, rfl⟩ trivial
  refine ⟨n, _, h1, h2, h3, hpost _ _ _ _ _ _ ⟨Cond.after_iff.mpr rfl, Cond.after_iff.mpr (eq_i res_at (Term.int_eval (1)) rfl), trivial⟩ ⟨hq.1, hq.2.1, (hq.2.2.sift fun y hy => Or.inr (N y hy)).mono (by decide) (by decide)⟩⟩
theorem main_1_1 : Claimed_1_1 := comes_1 fun _ _ _ _ _ _ h hF => ⟨h.1, hF⟩
theorem main_1_2 : Claimed_1_2 := comes_1 fun _ _ _ _ _ _ h hF => ⟨h.2.1, hF⟩

end Jvm.Pilot.@@N@@
namespace Jvm.Pilot.@@N@@
open Jvm Jvm.ClassFile Sem Op Lib Jvm.Free Jvm.Stand Jvm.Pilot.@@N@@.Jvm.D
/-! MADE BY PROGRAM (witnessworld.py) out of the Statement's table words and the real class files: 13 classes; the members and pool entries that the words name. The judged class is class 1, her method 1. -/
namespace start1
open Jvm.ClassFile
def u (s : String) : CpInfo := .utf8 (stringToUtf16 s)
/-- a pool by its gaps: so many unusable entries, then the entry; so many at the end -/
def gap : Nat → List CpInfo → List CpInfo
  | 0, r => r
  | n + 1, r => .unusable :: gap n r
def poolList (es : List (Nat × CpInfo)) (last : Nat) : List CpInfo := es.foldr (fun e r => gap e.1 (e.2 :: r)) (gap last [])
def pool (es : List (Nat × CpInfo)) (last : Nat) : Array CpInfo := ⟨poolList es last⟩
def fileOf (pool : Array CpInfo) (this : Nat) (attrs : Array Attribute := #[]) (ms : Array MethodInfo := #[]) (fl : Nat := 33) (sup : Nat := 0) (ifs : Array Nat := #[]) (fds : Array FieldInfo := #[]) : ClassFile where
  minorVersion := 0
  majorVersion := 65
  constantPool := pool
  accessFlags := fl
  thisClass := this
  superClass := sup
  interfaces := ifs
  fields := fds
  methods := ms
  attributes := attrs
def plain (name : String) (sup : Option ClassId) : Class where
  name := name
  kind := .ordinary
  loader := none
  accessFlags := 33
  super := sup
  interfaces := #[]
  cf := none
  fields := #[]
  methods := #[]
  instanceTypes := #[]
  staticTypes := #[]
  resolved := #[]
  callSites := []
  init := .initialized
  statics := none
  mirror := none

def pool0 : Array CpInfo := pool [(5, u "<init>"), (0, u "()V"), (1, .class_ 10), (1, u "java/lang/Object")] 113

def k0m0 : Method := { name := "<init>", desc := "()V", sig := { parameters := [], returnType := none }, accessFlags := 1, code := none }
/-- java/lang/Object -/
def k0 : Class := { plain "java/lang/Object" none with
  accessFlags := 33
  interfaces := #[]
  cf := some (fileOf pool0 8 #[] #[{ accessFlags := 1, nameIndex := 5, descriptorIndex := 6, attributes := #[] }] 33 0 #[] #[])
  fields := #[]
  methods := #[k0m0]
  instanceTypes := #[]
  staticTypes := #[]
  resolved := Array.replicate 124 none
  statics := none }

def pool1 : Array CpInfo := pool [(2, .class_ 4), (1, u "java/lang/Object"), (0, u "<init>"), (0, u "()V"), (0, .class_ 8), (0, u "com/example/open_frontier/openfrontier/frontend/Expression$BinaryOperator"), (0, .fieldref 7 10), (0, .nameAndType 11 12), (0, u "MULTIPLY"), (0, u "Lcom/example/open_frontier/openfrontier/frontend/Expression$BinaryOperator;"), (0, .fieldref 7 14), (0, .nameAndType 15 12), (0, u "DIVIDE"), (0, .fieldref 7 17), (0, .nameAndType 18 12), (0, u "REMAINDER"), (0, .fieldref 7 20), (0, .nameAndType 21 12), (0, u "ADD"), (0, .fieldref 7 23), (0, .nameAndType 24 12), (0, u "SUBTRACT"), (0, .fieldref 7 26), (0, .nameAndType 27 12), (0, u "SHIFT_LEFT"), (0, .fieldref 7 29), (0, .nameAndType 30 12), (0, u "SHIFT_RIGHT"), (0, .fieldref 7 32), (0, .nameAndType 33 12), (0, u "LESS"), (0, .fieldref 7 35), (0, .nameAndType 36 12), (0, u "GREATER"), (0, .fieldref 7 38), (0, .nameAndType 39 12), (0, u "LESS_EQUAL"), (0, .fieldref 7 41), (0, .nameAndType 42 12), (0, u "GREATER_EQUAL"), (0, .fieldref 7 44), (0, .nameAndType 45 12), (0, u "EQUAL"), (0, .fieldref 7 47), (0, .nameAndType 48 12), (0, u "NOT_EQUAL"), (0, .fieldref 7 50), (0, .nameAndType 51 12), (0, u "BIT_AND"), (0, .fieldref 7 53), (0, .nameAndType 54 12), (0, u "BIT_XOR"), (0, .fieldref 7 56), (0, .nameAndType 57 12), (0, u "BIT_OR"), (0, .fieldref 7 59), (0, .nameAndType 60 12), (0, u "LOGICAL_AND"), (0, .fieldref 7 62), (0, .nameAndType 63 12), (0, u "LOGICAL_OR"), (0, .integer 2147483647), (0, .methodref 7 66), (0, .nameAndType 67 68), (0, u "isShift"), (0, u "()Z"), (0, .class_ 70), (0, u "com/example/open_frontier/openfrontier/frontend/BinaryOperatorIsShiftPinLaw"), (2, u "law"), (0, u "(I)Z")] 9

def k1m0 : Method := { name := "<init>", desc := "()V", sig := { parameters := [], returnType := none }, accessFlags := 2, code := none }
def k1c1 : Code := { maxStack := 4, maxLocals := 4, code := code, exceptionTable := #[], attributes := #[] }
def k1m1 : Method := { name := "law", desc := "(I)Z", sig := { parameters := [.int], returnType := some .boolean }, accessFlags := 9, code := some k1c1 }
/-- com/example/open_frontier/openfrontier/frontend/BinaryOperatorIsShiftPinLaw -/
def k1 : Class := { plain "com/example/open_frontier/openfrontier/frontend/BinaryOperatorIsShiftPinLaw" (some 0) with
  accessFlags := 49
  interfaces := #[]
  cf := some (fileOf pool1 69 #[] #[{ accessFlags := 2, nameIndex := 5, descriptorIndex := 6, attributes := #[] }, { accessFlags := 9, nameIndex := 73, descriptorIndex := 74, attributes := #[] }] 49 2 #[] #[])
  fields := #[]
  methods := #[k1m0, k1m1]
  instanceTypes := #[]
  staticTypes := #[]
  resolved := Array.replicate 84 none
  statics := none }

def pool2 : Array CpInfo := pool [(1, .class_ 2), (0, u "java/lang/constant/Constable"), (0, .class_ 4), (0, u "java/lang/Object")] 6

/-- java/lang/constant/Constable -/
def k2 : Class := { plain "java/lang/constant/Constable" (some 0) with
  accessFlags := 1537
  interfaces := #[]
  cf := some (fileOf pool2 1 #[] #[] 1537 3 #[] #[])
  fields := #[]
  methods := #[]
  instanceTypes := #[]
  staticTypes := #[]
  resolved := Array.replicate 11 none
  statics := none }

def pool3 : Array CpInfo := pool [(1, .class_ 2), (0, u "java/lang/Comparable"), (0, .class_ 4), (0, u "java/lang/Object")] 7

/-- java/lang/Comparable -/
def k3 : Class := { plain "java/lang/Comparable" (some 0) with
  accessFlags := 1537
  interfaces := #[]
  cf := some (fileOf pool3 1 #[] #[] 1537 3 #[] #[])
  fields := #[]
  methods := #[]
  instanceTypes := #[]
  staticTypes := #[]
  resolved := Array.replicate 12 none
  statics := none }

def pool4 : Array CpInfo := pool [(1, .class_ 2), (0, u "java/io/Serializable"), (0, .class_ 4), (0, u "java/lang/Object")] 2

/-- java/io/Serializable -/
def k4 : Class := { plain "java/io/Serializable" (some 0) with
  accessFlags := 1537
  interfaces := #[]
  cf := some (fileOf pool4 1 #[] #[] 1537 3 #[] #[])
  fields := #[]
  methods := #[]
  instanceTypes := #[]
  staticTypes := #[]
  resolved := Array.replicate 7 none
  statics := none }

def pool5 : Array CpInfo := pool [(2, .class_ 4), (1, u "java/lang/Enum"), (0, u "name"), (0, u "Ljava/lang/String;"), (2, u "ordinal"), (0, u "I"), (1, .class_ 14), (1, u "java/lang/Object"), (4, u "hash"), (86, .class_ 108), (1, u "java/lang/Enum$EnumDesc"), (2, .class_ 112), (0, u "java/lang/constant/Constable"), (0, .class_ 114), (0, u "java/lang/Comparable"), (0, .class_ 116), (0, u "java/io/Serializable")] 87

/-- java/lang/Enum -/
def k5 : Class := { plain "java/lang/Enum" (some 0) with
  accessFlags := 1057
  interfaces := #[2, 3, 4]
  cf := some (fileOf pool5 2 #[.nestMembers #[106]] #[] 1057 12 #[111, 113, 115] #[{ accessFlags := 18, nameIndex := 5, descriptorIndex := 6, attributes := #[] }, { accessFlags := 18, nameIndex := 9, descriptorIndex := 10, attributes := #[] }, { accessFlags := 2, nameIndex := 19, descriptorIndex := 10, attributes := #[] }])
  fields := #[{ name := "name", type := (.object "java/lang/String"), accessFlags := 18, slot := 0, constantValue := 0 }, { name := "ordinal", type := .int, accessFlags := 18, slot := 1, constantValue := 0 }, { name := "hash", type := .int, accessFlags := 2, slot := 2, constantValue := 0 }]
  methods := #[]
  instanceTypes := #[(.object "java/lang/String"), .int, .int]
  staticTypes := #[]
  resolved := Array.replicate 204 none
  statics := none }

def pool6 : Array CpInfo := pool [(1, .class_ 2), (0, u "com/example/open_frontier/openfrontier/frontend/Expression$BinaryOperator"), (2, u "MULTIPLY"), (0, u "Lcom/example/open_frontier/openfrontier/frontend/Expression$BinaryOperator;"), (2, u "DIVIDE"), (2, u "REMAINDER"), (2, u "ADD"), (2, u "SUBTRACT"), (0, .fieldref 1 20), (0, .nameAndType 21 6), (0, u "SHIFT_LEFT"), (0, .fieldref 1 23), (0, .nameAndType 24 6), (0, u "SHIFT_RIGHT"), (2, u "LESS"), (2, u "GREATER"), (2, u "LESS_EQUAL"), (2, u "GREATER_EQUAL"), (2, u "EQUAL"), (2, u "NOT_EQUAL"), (2, u "BIT_AND"), (2, u "BIT_XOR"), (2, u "BIT_OR"), (2, u "LOGICAL_AND"), (2, u "LOGICAL_OR"), (2, u "$VALUES"), (0, u "[Lcom/example/open_frontier/openfrontier/frontend/Expression$BinaryOperator;"), (6, .class_ 70), (1, u "java/lang/Enum"), (41, u "()Z"), (1, u "isShift"), (6, .class_ 122), (0, u "com/example/open_frontier/openfrontier/frontend/Expression")] 2

def k6c0 : Code := { maxStack := 2, maxLocals := 1, code := prog_45_method_5_code, exceptionTable := #[], attributes := #[] }
def k6m0 : Method := { name := "isShift", desc := "()Z", sig := { parameters := [], returnType := some .boolean }, accessFlags := 1, code := some k6c0 }
/-- com/example/open_frontier/openfrontier/frontend/Expression$BinaryOperator -/
def k6 : Class := { plain "com/example/open_frontier/openfrontier/frontend/Expression$BinaryOperator" (some 5) with
  accessFlags := 16433
  interfaces := #[]
  cf := some (fileOf pool6 1 #[.nestHost 121] #[{ accessFlags := 1, nameIndex := 114, descriptorIndex := 112, attributes := #[] }] 16433 68 #[] #[{ accessFlags := 16409, nameIndex := 5, descriptorIndex := 6, attributes := #[] }, { accessFlags := 16409, nameIndex := 9, descriptorIndex := 6, attributes := #[] }, { accessFlags := 16409, nameIndex := 12, descriptorIndex := 6, attributes := #[] }, { accessFlags := 16409, nameIndex := 15, descriptorIndex := 6, attributes := #[] }, { accessFlags := 16409, nameIndex := 18, descriptorIndex := 6, attributes := #[] }, { accessFlags := 16409, nameIndex := 21, descriptorIndex := 6, attributes := #[] }, { accessFlags := 16409, nameIndex := 24, descriptorIndex := 6, attributes := #[] }, { accessFlags := 16409, nameIndex := 27, descriptorIndex := 6, attributes := #[] }, { accessFlags := 16409, nameIndex := 30, descriptorIndex := 6, attributes := #[] }, { accessFlags := 16409, nameIndex := 33, descriptorIndex := 6, attributes := #[] }, { accessFlags := 16409, nameIndex := 36, descriptorIndex := 6, attributes := #[] }, { accessFlags := 16409, nameIndex := 39, descriptorIndex := 6, attributes := #[] }, { accessFlags := 16409, nameIndex := 42, descriptorIndex := 6, attributes := #[] }, { accessFlags := 16409, nameIndex := 45, descriptorIndex := 6, attributes := #[] }, { accessFlags := 16409, nameIndex := 48, descriptorIndex := 6, attributes := #[] }, { accessFlags := 16409, nameIndex := 51, descriptorIndex := 6, attributes := #[] }, { accessFlags := 16409, nameIndex := 54, descriptorIndex := 6, attributes := #[] }, { accessFlags := 16409, nameIndex := 57, descriptorIndex := 6, attributes := #[] }, { accessFlags := 4122, nameIndex := 60, descriptorIndex := 61, attributes := #[] }])
  fields := #[{ name := "MULTIPLY", type := (.object "com/example/open_frontier/openfrontier/frontend/Expression$BinaryOperator"), accessFlags := 16409, slot := 0, constantValue := 0 }, { name := "DIVIDE", type := (.object "com/example/open_frontier/openfrontier/frontend/Expression$BinaryOperator"), accessFlags := 16409, slot := 1, constantValue := 0 }, { name := "REMAINDER", type := (.object "com/example/open_frontier/openfrontier/frontend/Expression$BinaryOperator"), accessFlags := 16409, slot := 2, constantValue := 0 }, { name := "ADD", type := (.object "com/example/open_frontier/openfrontier/frontend/Expression$BinaryOperator"), accessFlags := 16409, slot := 3, constantValue := 0 }, { name := "SUBTRACT", type := (.object "com/example/open_frontier/openfrontier/frontend/Expression$BinaryOperator"), accessFlags := 16409, slot := 4, constantValue := 0 }, { name := "SHIFT_LEFT", type := (.object "com/example/open_frontier/openfrontier/frontend/Expression$BinaryOperator"), accessFlags := 16409, slot := 5, constantValue := 0 }, { name := "SHIFT_RIGHT", type := (.object "com/example/open_frontier/openfrontier/frontend/Expression$BinaryOperator"), accessFlags := 16409, slot := 6, constantValue := 0 }, { name := "LESS", type := (.object "com/example/open_frontier/openfrontier/frontend/Expression$BinaryOperator"), accessFlags := 16409, slot := 7, constantValue := 0 }, { name := "GREATER", type := (.object "com/example/open_frontier/openfrontier/frontend/Expression$BinaryOperator"), accessFlags := 16409, slot := 8, constantValue := 0 }, { name := "LESS_EQUAL", type := (.object "com/example/open_frontier/openfrontier/frontend/Expression$BinaryOperator"), accessFlags := 16409, slot := 9, constantValue := 0 }, { name := "GREATER_EQUAL", type := (.object "com/example/open_frontier/openfrontier/frontend/Expression$BinaryOperator"), accessFlags := 16409, slot := 10, constantValue := 0 }, { name := "EQUAL", type := (.object "com/example/open_frontier/openfrontier/frontend/Expression$BinaryOperator"), accessFlags := 16409, slot := 11, constantValue := 0 }, { name := "NOT_EQUAL", type := (.object "com/example/open_frontier/openfrontier/frontend/Expression$BinaryOperator"), accessFlags := 16409, slot := 12, constantValue := 0 }, { name := "BIT_AND", type := (.object "com/example/open_frontier/openfrontier/frontend/Expression$BinaryOperator"), accessFlags := 16409, slot := 13, constantValue := 0 }, { name := "BIT_XOR", type := (.object "com/example/open_frontier/openfrontier/frontend/Expression$BinaryOperator"), accessFlags := 16409, slot := 14, constantValue := 0 }, { name := "BIT_OR", type := (.object "com/example/open_frontier/openfrontier/frontend/Expression$BinaryOperator"), accessFlags := 16409, slot := 15, constantValue := 0 }, { name := "LOGICAL_AND", type := (.object "com/example/open_frontier/openfrontier/frontend/Expression$BinaryOperator"), accessFlags := 16409, slot := 16, constantValue := 0 }, { name := "LOGICAL_OR", type := (.object "com/example/open_frontier/openfrontier/frontend/Expression$BinaryOperator"), accessFlags := 16409, slot := 17, constantValue := 0 }, { name := "$VALUES", type := (.array (.object "com/example/open_frontier/openfrontier/frontend/Expression$BinaryOperator")), accessFlags := 4122, slot := 18, constantValue := 0 }]
  methods := #[k6m0]
  instanceTypes := #[(.object "java/lang/String"), .int, .int]
  staticTypes := #[(.object "com/example/open_frontier/openfrontier/frontend/Expression$BinaryOperator"), (.object "com/example/open_frontier/openfrontier/frontend/Expression$BinaryOperator"), (.object "com/example/open_frontier/openfrontier/frontend/Expression$BinaryOperator"), (.object "com/example/open_frontier/openfrontier/frontend/Expression$BinaryOperator"), (.object "com/example/open_frontier/openfrontier/frontend/Expression$BinaryOperator"), (.object "com/example/open_frontier/openfrontier/frontend/Expression$BinaryOperator"), (.object "com/example/open_frontier/openfrontier/frontend/Expression$BinaryOperator"), (.object "com/example/open_frontier/openfrontier/frontend/Expression$BinaryOperator"), (.object "com/example/open_frontier/openfrontier/frontend/Expression$BinaryOperator"), (.object "com/example/open_frontier/openfrontier/frontend/Expression$BinaryOperator"), (.object "com/example/open_frontier/openfrontier/frontend/Expression$BinaryOperator"), (.object "com/example/open_frontier/openfrontier/frontend/Expression$BinaryOperator"), (.object "com/example/open_frontier/openfrontier/frontend/Expression$BinaryOperator"), (.object "com/example/open_frontier/openfrontier/frontend/Expression$BinaryOperator"), (.object "com/example/open_frontier/openfrontier/frontend/Expression$BinaryOperator"), (.object "com/example/open_frontier/openfrontier/frontend/Expression$BinaryOperator"), (.object "com/example/open_frontier/openfrontier/frontend/Expression$BinaryOperator"), (.object "com/example/open_frontier/openfrontier/frontend/Expression$BinaryOperator"), (.array (.object "com/example/open_frontier/openfrontier/frontend/Expression$BinaryOperator"))]
  resolved := Array.replicate 125 none
  statics := some 0 }

def pool7 : Array CpInfo := pool [(1, u "java/lang/Cloneable"), (0, .class_ 1), (0, u "java/lang/Object"), (0, .class_ 3)] 3

/-- java/lang/Cloneable -/
def k7 : Class := { plain "java/lang/Cloneable" (some 0) with
  accessFlags := 1537
  interfaces := #[]
  cf := some (fileOf pool7 2 #[] #[] 1537 4 #[] #[])
  fields := #[]
  methods := #[]
  instanceTypes := #[]
  staticTypes := #[]
  resolved := Array.replicate 8 none
  statics := none }

/-- the primitive byte -/
def k8 : Class := { plain "byte" none with kind := .primitive 'B', accessFlags := 0x411 }
/-- [B -/
def k9 : Class := { plain "[B" (some 0) with kind := .array 8 .byte, interfaces := #[7, 4], accessFlags := 1041 }

/-- the primitive int -/
def k10 : Class := { plain "int" none with kind := .primitive 'I', accessFlags := 0x411 }
/-- [I -/
def k11 : Class := { plain "[I" (some 0) with kind := .array 10 .int, interfaces := #[7, 4], accessFlags := 1041 }

/-- [Lcom/example/open_frontier/openfrontier/frontend/Expression$BinaryOperator; -/
def k12 : Class := { plain "[Lcom/example/open_frontier/openfrontier/frontend/Expression$BinaryOperator;" (some 0) with kind := .array 6 (.object "com/example/open_frontier/openfrontier/frontend/Expression$BinaryOperator"), interfaces := #[7, 4], accessFlags := 1041 }

def heap : Heap := #[{ cls := 6, slots := #[.ref 1, .ref 2, .ref 3, .ref 4, .ref 5, .ref 6, .ref 7, .ref 8, .ref 9, .ref 10, .ref 11, .ref 12, .ref 13, .ref 14, .ref 15, .ref 16, .ref 17, .ref 18, .null], vm := .statics 6 },
  { cls := 6, slots := #[.null, .int 0, .int 0], vm := .none },
  { cls := 6, slots := #[.null, .int 1, .int 0], vm := .none },
  { cls := 6, slots := #[.null, .int 2, .int 0], vm := .none },
  { cls := 6, slots := #[.null, .int 3, .int 0], vm := .none },
  { cls := 6, slots := #[.null, .int 4, .int 0], vm := .none },
  { cls := 6, slots := #[.null, .int 5, .int 0], vm := .none },
  { cls := 6, slots := #[.null, .int 6, .int 0], vm := .none },
  { cls := 6, slots := #[.null, .int 7, .int 0], vm := .none },
  { cls := 6, slots := #[.null, .int 8, .int 0], vm := .none },
  { cls := 6, slots := #[.null, .int 9, .int 0], vm := .none },
  { cls := 6, slots := #[.null, .int 10, .int 0], vm := .none },
  { cls := 6, slots := #[.null, .int 11, .int 0], vm := .none },
  { cls := 6, slots := #[.null, .int 12, .int 0], vm := .none },
  { cls := 6, slots := #[.null, .int 13, .int 0], vm := .none },
  { cls := 6, slots := #[.null, .int 14, .int 0], vm := .none },
  { cls := 6, slots := #[.null, .int 15, .int 0], vm := .none },
  { cls := 6, slots := #[.null, .int 16, .int 0], vm := .none },
  { cls := 6, slots := #[.null, .int 17, .int 0], vm := .none }]
def classes : Array Class := #[k0, k1, k2, k3, k4, k5, k6, k7, k8, k9, k10, k11, k12]
def interned : List (Array UInt16 × Addr) := []
def slotsUsed : Nat := 73
def theMethod : MethodId := ⟨1, 1⟩
def args0 : Array Value := #[.int 5]
def aboutOver (below : List Frame) : State where
  vm := { classes := classes, interned := interned.toArray }
  heap := heap
  slotsUsed := slotsUsed
  threads := #[{ frames := .invoking theMethod args0 :: below }]
def below0 : List Frame := [.native { method := ⟨0, 0⟩, args := #[] }]
def about1 : State := aboutOver below0
def p0 : Program := .bare "" "" ""
def e0 : Env := launch0.env 0 0 0
theorem w_frames : about1.frames = Frame.invoking theMethod args0 :: below0 := rfl
set_option maxRecDepth 65536 in
theorem w_args : argsFit about1.vm theMethod args0 = true := by decide +kernel
set_option maxRecDepth 65536 in
theorem w_heap : heapFits about1 = true := by decide +kernel
set_option maxRecDepth 65536 in
theorem w_runnable : about1.curStatus? = some .runnable := by decide +kernel
set_option maxRecDepth 65536 in
theorem w_alone : about1.alone = true := by decide +kernel
set_option maxRecDepth 65536 in
theorem w_named : about1.methodNamed? x = some theMethod := by decide +kernel
set_option maxRecDepth 65536 in
theorem w_hears : about1.hears theMethod below0 = true := by decide +kernel
set_option maxRecDepth 65536 in
theorem w_ripe : about1.ripe theMethod args0 below0 = true := by decide +kernel
theorem w_running : about1.status = .running := rfl
set_option maxRecDepth 65536 in
theorem w_room : about1.hasRoom e0.platform room_1 = true :=
  launch0.hasRoom_least _ room_1 (by decide +kernel) (by decide +kernel) (by decide +kernel) (by decide +kernel) (by decide +kernel) (by decide +kernel)
theorem allAtoms_all (ts : List Jvm.Cond) (a : Array Jvm.Value) (st : Jvm.State) : (allAtoms ts).before a st = ts.all (fun c => c.before a st) := by
  induction ts with
  | nil => rfl
  | cons c t ih =>
    show (Jvm.Cond.and c (allAtoms t)).before a st = _
    rw [Jvm.Cond.before_and, ih, List.all_cons]
def words1 : List Jvm.Cond := Jvm.Cond.code x code maxLocals ret :: tables_1
/-- a 'code' word, met by the world's own term for the bytes: nothing is compared byte by byte -/
theorem code_word {y : MethodName} {bytes : ByteArray} {mx : Nat} {rt : Option FieldType} {a : Array Value} {s : State} {m : MethodId} {meth : Method} {c : Code} (h1 : s.methodNamed? y = some m) (h2 : s.vm.method? m = some meth) (h3 : meth.code = some c) (h4 : c.code = bytes)
    (h5 : (c.maxLocals == mx && c.exceptionTable.isEmpty && decide (c.maxStack ≤ mostOperands) && decide (meth.sig.returnType = rt) && !meth.locks && decide (parseMethodDescriptor y.desc = some meth.sig)) = true) : (Jvm.Cond.code y bytes mx rt).before a s = true := by
  simp only [Bool.and_eq_true, beq_iff_eq, Bool.not_eq_true', decide_eq_true_eq] at h5
  obtain ⟨⟨⟨⟨⟨g1, g2⟩, g3⟩, g4⟩, g5⟩, g6⟩ := h5
  simp [Cond.before, Cond.holds, Cond.value, h1, h2, h3, h4, g1, g2, g3, g4, g5, g6]
def isCode : Jvm.Cond → Bool
  | .code _ _ _ _ => true
  | _ => false
theorem all_split {L : List Jvm.Cond} {P : Jvm.Cond → Bool} (h1 : L.all (fun c => isCode c || P c) = true) (h2 : ∀ c ∈ L.filter isCode, P c = true) : L.all P = true := by
  refine List.all_eq_true.mpr fun c hc => ?_
  have h := List.all_eq_true.mp h1 c hc
  rcases Bool.eq_false_or_eq_true (isCode c) with hi | hi
  · exact h2 c (List.mem_filter.mpr ⟨hc, hi⟩)
  · simpa [hi] using h
set_option maxRecDepth 65536 in
theorem w_c0 : (Jvm.Cond.code x code maxLocals ret).before args0 about1 = true := code_word (m := ⟨1, 1⟩) (meth := k1m1) (c := k1c1) (by decide +kernel) rfl rfl rfl (by decide +kernel)
set_option maxRecDepth 65536 in
theorem w_c1 : (Jvm.Cond.code ({ cls := "com/example/open_frontier/openfrontier/frontend/Expression$BinaryOperator", name := "isShift", desc := "()Z" } : Jvm.MethodName) prog_45_method_5_code (1 : Nat) (Option.some Jvm.ClassFile.FieldType.boolean)).before args0 about1 = true := code_word (m := ⟨6, 0⟩) (meth := k6m0) (c := k6c0) (by decide +kernel) rfl rfl rfl (by decide +kernel)
def codes1 : List Jvm.Cond := [Jvm.Cond.code x code maxLocals ret, Jvm.Cond.code ({ cls := "com/example/open_frontier/openfrontier/frontend/Expression$BinaryOperator", name := "isShift", desc := "()Z" } : Jvm.MethodName) prog_45_method_5_code (1 : Nat) (Option.some Jvm.ClassFile.FieldType.boolean)]
set_option maxRecDepth 65536 in
theorem codes_eq : words1.filter isCode = codes1 := rfl
theorem w_codes : ∀ c ∈ words1.filter isCode, c.before args0 about1 = true := by
  rw [codes_eq]
  intro c hc
  simp only [codes1, List.mem_cons, List.not_mem_nil, or_false] at hc
  rcases hc with rfl | rfl
  · exact w_c0
  · exact w_c1
set_option maxRecDepth 65536 in
theorem w_t1 : (words1.take 24).all (fun c => isCode c || c.before args0 about1) = true := by decide +kernel
set_option maxRecDepth 65536 in
theorem w_t2 : ((words1.drop 24).take 24).all (fun c => isCode c || c.before args0 about1) = true := by decide +kernel
set_option maxRecDepth 65536 in
theorem w_t3 : ((words1.drop 24).drop 24).all (fun c => isCode c || c.before args0 about1) = true := by decide +kernel
theorem w_tables : (allAtoms (Jvm.Cond.code x code maxLocals ret :: tables_1)).before args0 about1 = true := by
  rw [allAtoms_all]
  show words1.all (fun c => c.before args0 about1) = true
  refine all_split ?_ w_codes
  rw [← List.take_append_drop 24 words1, List.all_append, w_t1, ← List.take_append_drop 24 (words1.drop 24), List.all_append, w_t2, w_t3]
  rfl
set_option maxRecDepth 65536 in
theorem w_case : (Jvm.Cond.and given_1 narrow_1).before args0 about1 = true := by decide +kernel
theorem w_applies : (headSpec (Jvm.Cond.code x code maxLocals ret :: tables_1) room_1).applies x e0.platform about1 = true :=
  (Spec.applies_iff w_frames).mpr ⟨w_running, w_runnable, w_alone, w_named, w_hears, w_ripe, w_room, w_tables⟩
theorem atStart : AtStart classFile x code maxLocals ret World_1 tables_1 room_1 Calls_1 rest_1 Pre_1 launch0 p0 e0 about1 theMethod args0 below0 :=
  ⟨lists_1, trivial, launch0.admits_env _ _ _, launch0.least_env, fairChoices_fair.cas, fairChoices_fair.clock, w_frames, w_args, w_heap, w_applies, trivial, trivial, w_case⟩
end start1
theorem witness_1 : WitnessClaimed_1 := ⟨start1.p0, start1.e0, start1.about1, start1.theMethod, start1.args0, start1.below0, start1.atStart⟩
end Jvm.Pilot.@@N@@
