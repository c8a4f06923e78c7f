import JvmDerived
import JvmDerived.Pilot.@@N@@Statement
import JvmDerived.Pilot.@@N@@Code
set_option linter.unusedVariables false
set_option linter.unusedSimpArgs false
namespace Jvm.RoadKit
open Sem ClassFile Op Lib Jvm.Stand Jvm.Free Jvm.LawKit
section New
variable {p : Program} {l : Launch} {e : Env} {R : Room} {s : State} {m : MethodId} {args : Array Value} {below : List Frame} {meth : Method} {c : Code} {T : State} {locs : List Loc} {cells slots : Nat}
theorem retI (X : Stand p l e R s m args below meth c T locs cells slots) (hx : p.tables.exec = Jvm.exec) {pc : Nat} {Ls : Array Slot} {z : Int32} {rest : List Value} (hret : meth.sig.returnType = some .int) (hd : decode c.code pc = .ok (.ireturn, 1)) {fs : List Frame}
    (hl : ∀ (f : JFrame) (acts : List Action), f.method = m → f.locked = none → f.entered = [] → (doReturn e (T.setTop f) acts (some (.int z))).1 = T.setFrames fs) : Steps p.tables e below (T.setTop (mkF m pc Ls (.int z :: rest))) (T.setFrames fs) := by
  have hm' : T.vm.method? m = some meth := X.method'
  have hn : narrow .int (.int z) = .int z := rfl
  show Steps p.tables e below (T.setTop { method := m, pc := pc, locals := Ls, stack := _ :: rest, locked := none }) _
  jvm_step X.here [X.here.top, hx, hd, hm', hret, hn]
  first | (intro acts; rw [hl _ acts rfl rfl rfl]) | rw [hl _ _ rfl rfl rfl]
  exact Steps.refl _
end New
end Jvm.RoadKit
namespace Jvm.Pilot.@@N@@
open Jvm Jvm.ClassFile Sem Op Lib Jvm.Free Jvm.Stand Jvm.LawKit Jvm.RoadKit Bundle Jvm.Pilot.@@N@@.Jvm.D

theorem own_nn (q : Int64) : ¬ ((lcmpW (q &&& (9223372036854775807 : Int64)) (0 : Int64)) < (0 : Int32)) := by
  have h := (c_andSL q 9223372036854775807).2.2 (by decide)
  obtain ⟨c1, c2, c3⟩ := c_lcmp (q &&& (9223372036854775807 : Int64)) 0
  have z : (0 : Int64).toInt = 0 := by decide
  have z' : (0 : Int32).toInt = 0 := by decide
  rw [z] at c2 c3
  rw [Int32.lt_iff_toInt_lt, z']
  rcases Int.lt_or_eq_of_le h with h | h
  · rw [c3 h]; decide
  · rw [c2 h.symm]; decide
theorem own_wS {Z : State} {a0 : Array Value} (hw : ∀ d ∈ tables_1, d.before a0 Z = true) : ∀ a ∈ Bundle.stringAtoms, a.before a0 Z = true := by
  intro a ha
  simp only [Bundle.stringAtoms, List.mem_cons, List.not_mem_nil, or_false] at ha
  rcases ha with rfl | rfl | rfl | rfl | rfl | rfl | rfl
  · exact (hw _ (List.mem_of_getElem? (i := 19) rfl))
  · exact (hw _ (List.mem_of_getElem? (i := 20) rfl))
  · exact (hw _ (List.mem_of_getElem? (i := 21) rfl))
  · exact (hw _ (List.mem_of_getElem? (i := 22) rfl))
  · exact (hw _ (List.mem_of_getElem? (i := 23) rfl))
  · exact (hw _ (List.mem_of_getElem? (i := 24) rfl))
  · exact (hw _ (List.mem_of_getElem? (i := 25) rfl))

theorem d2_0 : decode jdk_30_method_1_code 0 = .ok (.aload_n 0, 1) := by decide +kernel
theorem d2_1 : decode jdk_30_method_1_code 1 = .ok (.invokespecial 1, 3) := by decide +kernel
theorem d2_4 : decode jdk_30_method_1_code 4 = .ok (.return_, 1) := by decide +kernel
theorem pn_2 : plainName "java/lang/Record" = true := by first | (simp [plainName, overriddenIn]; done) | decide +kernel
theorem ef_2 (m : MethodId) (x0 : Addr) : entryFrame m #[(.ref x0)] 1 = mkF m 0 #[.val (.ref x0)] [] := by first | (simp [entryFrame, mkF, argsToLocals, Value.category]; done) | rfl
def Q2 (Z : State) (a1 : Addr) (h0 : Heap) (n0 : Nat) (v : Option Value) (h : Heap) (L : List Loc) : Prop := v = none ∧ Fr n0 L ∧ h = h0
set_option maxRecDepth 65536 in
set_option maxHeartbeats 40000000 in
theorem rm2 (l : Launch) (Z : State) (a0 : Array Value) (hw : ∀ d ∈ tables_1, d.before a0 Z = true) (ws : List Jvm.Cond) (a1 : Addr) (h0 : Heap) (n0 : Nat) (Z0 : n0 ≤ h0.size) :
    MetFree l (⟨"java/lang/Record", "<init>", "()V"⟩ : MethodName) (head1 (Jvm.Cond.code (⟨"java/lang/Record", "<init>", "()V"⟩ : MethodName) jdk_30_method_1_code 1 none :: ws) ({ frames := 1, cells := 0, slots := 0, locals := 12 } : Room)) (fun a U => a = #[(.ref a1)] ∧ Z.Warmed39 U.vm ∧ U.heap = h0) (fun _ _ _ _ _ => True) (fun _ U o U' => ∃ v L, o = .returned v ∧ Q2 Z a1 h0 n0 v U'.heap L ∧ FrameEnd U o U' L ({ frames := 1, cells := 0, slots := 0, locals := 12 } : Room).cells ({ frames := 1, cells := 0, slots := 0, locals := 12 } : Room).slots) := by
  refine MetFree.of_bodySF (plainFor_of_name pn_2) hisR ?_
  intro p e s m args below meth c s₁ Bd hml0 hP hK
  obtain ⟨rfl, hZ, hh⟩ := hP
  have hx := Bd.exec
  have hby := Bd.bytes
  have hml : c.maxLocals = 1 := hml0
  have hown : s.vm.findClass "java/lang/Record" = some m.cls := findClass_of_methodNamed Bd.named
  have hnm := (name_of_methodNamed Bd.named Bd.method).1
  have X0 : Stand p l e ({ frames := 1, cells := 0, slots := 0, locals := 12 } : Room) s m #[(.ref a1)] below meth c s₁ [] 0 0 := Stand.of_body Bd
  have e0 : s₁.heap = h0 := by rw [← hh, Bd.state]; rfl
  have N0 := Fr.nil n0
  have pre0 : ∀ t, Steps p.tables e below (s₁.setTop (mkF m 0 #[.val (.ref a1)] [])) t → Steps p.tables e below (s₁.setTop (entryFrame m #[(.ref a1)] 1)) t := fun t k => castTop (ef_2 m a1) k
  obtain ⟨T2, X2, e2, st2⟩ := initO X0 hx hZ hown (hw _ (List.mem_of_getElem? (i := 15) rfl)) (hw _ (List.mem_of_getElem? (i := 16) rfl)) (hw _ (List.mem_of_getElem? (i := 17) rfl)) e0 (g := (mkF m 1 #[.val (.ref a1)] [(.ref a1)])) rfl (by rw [hml]; rfl) rfl (hb hby d2_1) (by decide) (W := 0) (by show 2 * 0 + _ ≤ _; exact Nat.le_of_eq rfl) (by decide)
  obtain ⟨fs, hr, hrun, hended, hW, hsame⟩ := X2.leave (v := none) (fun _ => rfl)
  refine ⟨_, _, pre0 _ ?_, hrun, hended, _, _, rfl, ?_, ⟨_, rfl⟩, hW, hsame.mono (by decide) (by decide)⟩
  · show Steps p.tables e below (s₁.setTop (mkF m 0 #[.val (.ref a1)] [])) _
    refine XS.aloadN X0.here hx rfl (hb hby d2_0) rfl rfl ?_
    show Steps p.tables e below (s₁.setTop (mkF m 1 #[.val (.ref a1)] [(.ref a1)])) _
    refine st2 _ ?_
    show Steps p.tables e below (T2.setTop (mkF m 4 #[.val (.ref a1)] [])) _
    exact X2.returnOut hx Bd.returns (hb hby d2_4) hr
  · show Q2 Z a1 h0 n0 _ T2.heap _
    rw [e2]
    exact ⟨rfl, N0, rfl⟩


theorem d4_0 : decode jdk_31_method_11_code 0 = .ok (.aload_n 0, 1) := by decide +kernel
theorem d4_1 : decode jdk_31_method_11_code 1 = .ok (.ifnonnull 12, 3) := by decide +kernel
theorem d4_13 : decode jdk_31_method_11_code 13 = .ok (.aload_n 0, 1) := by decide +kernel
theorem d4_14 : decode jdk_31_method_11_code 14 = .ok (.areturn, 1) := by decide +kernel
theorem pn_4 : plainName "java/util/Objects" = true := by first | (simp [plainName, overriddenIn]; done) | decide +kernel
theorem ef_4 (m : MethodId) (x0 : Addr) (x1 : Addr) : entryFrame m #[(.ref x0), (.ref x1)] 2 = mkF m 0 #[.val (.ref x0), .val (.ref x1)] [] := by first | (simp [entryFrame, mkF, argsToLocals, Value.category]; done) | rfl
def Q4 (Z : State) (a1 : Addr) (a2 : Addr) (h0 : Heap) (n0 : Nat) (v : Option Value) (h : Heap) (L : List Loc) : Prop := v = some (.ref a1) ∧ Fr n0 L ∧ h = h0
set_option maxRecDepth 65536 in
set_option maxHeartbeats 40000000 in
theorem rm4 (l : Launch) (Z : State) (a0 : Array Value) (hw : ∀ d ∈ tables_1, d.before a0 Z = true) (ws : List Jvm.Cond) (a1 : Addr) (a2 : Addr) (h0 : Heap) (n0 : Nat) (Z0 : n0 ≤ h0.size) :
    MetFree l (⟨"java/util/Objects", "requireNonNull", "(Ljava/lang/Object;Ljava/lang/String;)Ljava/lang/Object;"⟩ : MethodName) (head1 (Jvm.Cond.code (⟨"java/util/Objects", "requireNonNull", "(Ljava/lang/Object;Ljava/lang/String;)Ljava/lang/Object;"⟩ : MethodName) jdk_31_method_11_code 2 (some (.object "java/lang/Object")) :: ws) ({ frames := 0, cells := 0, slots := 0, locals := 0 } : Room)) (fun a U => a = #[(.ref a1), (.ref a2)] ∧ Z.Warmed39 U.vm ∧ U.heap = h0) (fun _ _ _ _ _ => True) (fun _ U o U' => ∃ v L, o = .returned v ∧ Q4 Z a1 a2 h0 n0 v U'.heap L ∧ FrameEnd U o U' L ({ frames := 0, cells := 0, slots := 0, locals := 0 } : Room).cells ({ frames := 0, cells := 0, slots := 0, locals := 0 } : Room).slots) := by
  refine MetFree.of_bodySF (plainFor_of_name pn_4) hisR ?_
  intro p e s m args below meth c s₁ Bd hml0 hP hK
  obtain ⟨rfl, hZ, hh⟩ := hP
  have hx := Bd.exec
  have hby := Bd.bytes
  have hml : c.maxLocals = 2 := hml0
  have hown : s.vm.findClass "java/util/Objects" = some m.cls := findClass_of_methodNamed Bd.named
  have hnm := (name_of_methodNamed Bd.named Bd.method).1
  have X0 : Stand p l e ({ frames := 0, cells := 0, slots := 0, locals := 0 } : Room) s m #[(.ref a1), (.ref a2)] below meth c s₁ [] 0 0 := Stand.of_body Bd
  have e0 : s₁.heap = h0 := by rw [← hh, Bd.state]; rfl
  have N0 := Fr.nil n0
  have pre0 : ∀ t, Steps p.tables e below (s₁.setTop (mkF m 0 #[.val (.ref a1), .val (.ref a2)] [])) t → Steps p.tables e below (s₁.setTop (entryFrame m #[(.ref a1), (.ref a2)] 2)) t := fun t k => castTop (ef_4 m a1 a2) k

  obtain ⟨fs, hr, hrun, hended, hW, hsame⟩ := X0.leave (v := some (.ref a1)) (fun h => by rw [Bd.returns] at h; cases h)
  refine ⟨_, _, pre0 _ ?_, hrun, hended, _, _, rfl, ?_, ⟨_, rfl⟩, hW, hsame.mono (by decide) (by decide)⟩
  · show Steps p.tables e below (s₁.setTop (mkF m 0 #[.val (.ref a1), .val (.ref a2)] [])) _
    refine XS.aloadN X0.here hx rfl (hb hby d4_0) rfl rfl ?_
    show Steps p.tables e below (s₁.setTop (mkF m 1 #[.val (.ref a1), .val (.ref a2)] [(.ref a1)])) _
    refine XS.ifnonnullYes X0.here hx rfl (pc0 := 1) (pc' := 13) rfl (hb hby d4_1) rfl (by decide) (by decide) ?_
    show Steps p.tables e below (s₁.setTop (mkF m 13 #[.val (.ref a1), .val (.ref a2)] [])) _
    refine XS.aloadN X0.here hx rfl (hb hby d4_13) rfl rfl ?_
    show Steps p.tables e below (s₁.setTop (mkF m 14 #[.val (.ref a1), .val (.ref a2)] [(.ref a1)])) _
    jvm_step X0.here [X0.here.top, hx, (hb hby d4_14), X0.method', Bd.returns, Value.isRef, FieldType.isReference]
    first | (intro acts; rw [hr _ acts rfl rfl rfl]) | rw [hr _ _ rfl rfl rfl]
    exact Steps.refl _
  · show Q4 Z a1 a2 h0 n0 _ s₁.heap _
    rw [e0]
    exact ⟨rfl, N0, rfl⟩


theorem d5_0 : decode prog_17_method_5_code 0 = .ok (.lload_n 1, 1) := by decide +kernel
theorem d5_1 : decode prog_17_method_5_code 1 = .ok (.lconst 0, 1) := by decide +kernel
theorem d5_2 : decode prog_17_method_5_code 2 = .ok (.lcmp, 1) := by decide +kernel
theorem d5_3 : decode prog_17_method_5_code 3 = .ok (.ifCond .ge 21, 3) := by decide +kernel
theorem d5_24 : decode prog_17_method_5_code 24 = .ok (.return_, 1) := by decide +kernel
theorem pn_5 : plainName "com/example/albizia/albizia/limits/Limit" = true := by first | (simp [plainName, overriddenIn]; done) | decide +kernel
theorem ef_5 (m : MethodId) (x0 : Addr) (x1 : Int64) : entryFrame m #[(.ref x0), (.long x1)] 3 = mkF m 0 #[.val (.ref x0), .val (.long x1), .second] [] := by first | (simp [entryFrame, mkF, argsToLocals, Value.category]; done) | rfl
def Q5 (Z : State) (a1 : Addr) (q2 : Int64) (h0 : Heap) (n0 : Nat) (v : Option Value) (h : Heap) (L : List Loc) : Prop := v = none ∧ Fr n0 L ∧ h = h0
set_option maxRecDepth 65536 in
set_option maxHeartbeats 40000000 in
theorem rm5 (l : Launch) (Z : State) (a0 : Array Value) (hw : ∀ d ∈ tables_1, d.before a0 Z = true) (ws : List Jvm.Cond) (a1 : Addr) (q2 : Int64) (h0 : Heap) (n0 : Nat) (Z0 : n0 ≤ h0.size) (hc3 : ¬ ((lcmpW q2 (0 : Int64)) < (0 : Int32))) :
    MetFree l (⟨"com/example/albizia/albizia/limits/Limit", "requireNotNegative", "(Lcom/example/albizia/albizia/limits/LimitLevel;J)V"⟩ : MethodName) (head1 (Jvm.Cond.code (⟨"com/example/albizia/albizia/limits/Limit", "requireNotNegative", "(Lcom/example/albizia/albizia/limits/LimitLevel;J)V"⟩ : MethodName) prog_17_method_5_code 3 none :: ws) ({ frames := 0, cells := 0, slots := 0, locals := 0 } : Room)) (fun a U => a = #[(.ref a1), (.long q2)] ∧ Z.Warmed39 U.vm ∧ U.heap = h0) (fun _ _ _ _ _ => True) (fun _ U o U' => ∃ v L, o = .returned v ∧ Q5 Z a1 q2 h0 n0 v U'.heap L ∧ FrameEnd U o U' L ({ frames := 0, cells := 0, slots := 0, locals := 0 } : Room).cells ({ frames := 0, cells := 0, slots := 0, locals := 0 } : Room).slots) := by
  refine MetFree.of_bodySF (plainFor_of_name pn_5) hisR ?_
  intro p e s m args below meth c s₁ Bd hml0 hP hK
  obtain ⟨rfl, hZ, hh⟩ := hP
  have hx := Bd.exec
  have hby := Bd.bytes
  have hml : c.maxLocals = 3 := hml0
  have hown : s.vm.findClass "com/example/albizia/albizia/limits/Limit" = some m.cls := findClass_of_methodNamed Bd.named
  have hnm := (name_of_methodNamed Bd.named Bd.method).1
  have X0 : Stand p l e ({ frames := 0, cells := 0, slots := 0, locals := 0 } : Room) s m #[(.ref a1), (.long q2)] below meth c s₁ [] 0 0 := Stand.of_body Bd
  have e0 : s₁.heap = h0 := by rw [← hh, Bd.state]; rfl
  have N0 := Fr.nil n0
  have pre0 : ∀ t, Steps p.tables e below (s₁.setTop (mkF m 0 #[.val (.ref a1), .val (.long q2), .second] [])) t → Steps p.tables e below (s₁.setTop (entryFrame m #[(.ref a1), (.long q2)] 3)) t := fun t k => castTop (ef_5 m a1 q2) k

  obtain ⟨fs, hr, hrun, hended, hW, hsame⟩ := X0.leave (v := none) (fun _ => rfl)
  refine ⟨_, _, pre0 _ ?_, hrun, hended, _, _, rfl, ?_, ⟨_, rfl⟩, hW, hsame.mono (by decide) (by decide)⟩
  · show Steps p.tables e below (s₁.setTop (mkF m 0 #[.val (.ref a1), .val (.long q2), .second] [])) _
    refine XS.lloadN X0.here hx rfl (hb hby d5_0) rfl ?_
    show Steps p.tables e below (s₁.setTop (mkF m 1 #[.val (.ref a1), .val (.long q2), .second] [(.long q2)])) _
    refine XS.lconst X0.here hx rfl (hb hby d5_1) ?_
    show Steps p.tables e below (s₁.setTop (mkF m 2 #[.val (.ref a1), .val (.long q2), .second] [(.long (0 : Int64)), (.long q2)])) _
    refine XS.lcmp X0.here hx rfl (hb hby d5_2) rfl ?_
    show Steps p.tables e below (s₁.setTop (mkF m 3 #[.val (.ref a1), .val (.long q2), .second] [(.int (lcmpW q2 (0 : Int64)))])) _
    refine XS.ifYes X0.here hx rfl (pc0 := 3) (pc' := 24) rfl (hb hby d5_3) rfl ((if0 _ _).trans (flt hc3).2.1) (by decide) (by decide) ?_
    show Steps p.tables e below (s₁.setTop (mkF m 24 #[.val (.ref a1), .val (.long q2), .second] [])) _
    exact X0.returnOut hx Bd.returns (hb hby d5_24) hr
  · show Q5 Z a1 q2 h0 n0 _ s₁.heap _
    rw [e0]
    exact ⟨rfl, N0, rfl⟩


theorem d1_0 : decode prog_17_method_1_code 0 = .ok (.aload_n 0, 1) := by decide +kernel
theorem d1_1 : decode prog_17_method_1_code 1 = .ok (.invokespecial 1, 3) := by decide +kernel
theorem d1_4 : decode prog_17_method_1_code 4 = .ok (.aload_n 1, 1) := by decide +kernel
theorem d1_5 : decode prog_17_method_1_code 5 = .ok (.ldc 7, 2) := by decide +kernel
theorem d1_7 : decode prog_17_method_1_code 7 = .ok (.invokestatic 9, 3) := by decide +kernel
theorem d1_10 : decode prog_17_method_1_code 10 = .ok (.pop, 1) := by decide +kernel
theorem d1_11 : decode prog_17_method_1_code 11 = .ok (.aload_n 1, 1) := by decide +kernel
theorem d1_12 : decode prog_17_method_1_code 12 = .ok (.lload_n 2, 1) := by decide +kernel
theorem d1_13 : decode prog_17_method_1_code 13 = .ok (.invokestatic 15, 3) := by decide +kernel
theorem d1_16 : decode prog_17_method_1_code 16 = .ok (.aload_n 0, 1) := by decide +kernel
theorem d1_17 : decode prog_17_method_1_code 17 = .ok (.aload_n 1, 1) := by decide +kernel
theorem d1_18 : decode prog_17_method_1_code 18 = .ok (.putfield 21, 3) := by decide +kernel
theorem d1_21 : decode prog_17_method_1_code 21 = .ok (.aload_n 0, 1) := by decide +kernel
theorem d1_22 : decode prog_17_method_1_code 22 = .ok (.lload_n 2, 1) := by decide +kernel
theorem d1_23 : decode prog_17_method_1_code 23 = .ok (.putfield 24, 3) := by decide +kernel
theorem d1_26 : decode prog_17_method_1_code 26 = .ok (.return_, 1) := by decide +kernel
theorem pn_1 : plainName "com/example/albizia/albizia/limits/Limit" = true := by first | (simp [plainName, overriddenIn]; done) | decide +kernel
theorem pd_1_1 : parseMethodDescriptor "()V" = some ⟨[], none⟩ := by decide +kernel
theorem pd_1_2 : parseMethodDescriptor "(Ljava/lang/Object;Ljava/lang/String;)Ljava/lang/Object;" = some ⟨[(.object "java/lang/Object"), (.object "java/lang/String")], some (.object "java/lang/Object")⟩ := by decide +kernel
theorem pd_1_0 : parseMethodDescriptor "(Lcom/example/albizia/albizia/limits/LimitLevel;J)V" = some ⟨[(.object "com/example/albizia/albizia/limits/LimitLevel"), .long], none⟩ := by decide +kernel
theorem ef_1 (m : MethodId) (x0 : Addr) (x1 : Addr) (x2 : Int64) : entryFrame m #[(.ref x0), (.ref x1), (.long x2)] 4 = mkF m 0 #[.val (.ref x0), .val (.ref x1), .val (.long x2), .second] [] := by first | (simp [entryFrame, mkF, argsToLocals, Value.category]; done) | rfl
def Q1 (Z : State) (a1 : Addr) (a2 : Addr) (q3 : Int64) (u_level_a1 : Value) (u_millis_a1 : Value) (h0 : Heap) (n0 : Nat) (v : Option Value) (h : Heap) (L : List Loc) : Prop := v = none ∧ Fr n0 L ∧ Keep h0 h [a1] ∧ Exa Z h a1 "com/example/albizia/albizia/limits/Limit" ∧ Fld Z h a1 "com/example/albizia/albizia/limits/Limit" "millis" "J" (.long q3)
-- its room: frames: the greatest, locals: the greatest, cells 2 + .., slots 24 + ..: rm2: frames + 1; locals 0 + 1 + 11 + its room's locals; its cells and slots besides; rm4: frames + 1; locals 0 + 2 + 11 + its room's locals; its cells and slots besides; rm5: frames + 1; locals 0 + 3 + 11 + its room's locals; its cells and slots besides
set_option maxRecDepth 65536 in
set_option maxHeartbeats 40000000 in
theorem rm1 (l : Launch) (Z : State) (a0 : Array Value) (hw : ∀ d ∈ tables_1, d.before a0 Z = true) (ws : List Jvm.Cond) (a1 : Addr) (a2 : Addr) (q3 : Int64) (u_level_a1 : Value) (u_millis_a1 : Value) (h0 : Heap) (n0 : Nat) (Z0 : n0 ≤ h0.size) (E_a1 : Exa Z h0 a1 "com/example/albizia/albizia/limits/Limit") (F_level_a1 : Fld Z h0 a1 "com/example/albizia/albizia/limits/Limit" "level" "Lcom/example/albizia/albizia/limits/LimitLevel;" u_level_a1) (g_a1 : n0 ≤ a1) (F_millis_a1 : Fld Z h0 a1 "com/example/albizia/albizia/limits/Limit" "millis" "J" u_millis_a1) (hq3 : ¬ ((lcmpW q3 (0 : Int64)) < (0 : Int32))) :
    MetFree l (⟨"com/example/albizia/albizia/limits/Limit", "<init>", "(Lcom/example/albizia/albizia/limits/LimitLevel;J)V"⟩ : MethodName) (head1 (Jvm.Cond.code (⟨"com/example/albizia/albizia/limits/Limit", "<init>", "(Lcom/example/albizia/albizia/limits/LimitLevel;J)V"⟩ : MethodName) prog_17_method_1_code 4 none :: ws) ({ frames := 2, cells := 2, slots := 24, locals := 24 } : Room)) (fun a U => a = #[(.ref a1), (.ref a2), (.long q3)] ∧ Z.Warmed39 U.vm ∧ U.heap = h0) (fun _ _ _ _ _ => True) (fun _ U o U' => ∃ v L, o = .returned v ∧ Q1 Z a1 a2 q3 u_level_a1 u_millis_a1 h0 n0 v U'.heap L ∧ ReturnedEndW U o U' L ({ frames := 2, cells := 2, slots := 24, locals := 24 } : Room).cells ({ frames := 2, cells := 2, slots := 24, locals := 24 } : Room).slots) := by
  refine MetFree.of_bodySF (plainFor_of_name pn_1) hisR ?_
  intro p e s m args below meth c s₁ Bd hml0 hP hK
  obtain ⟨rfl, hZ, hh⟩ := hP
  have hx := Bd.exec
  have hby := Bd.bytes
  have hml : c.maxLocals = 4 := hml0
  have hown : s.vm.findClass "com/example/albizia/albizia/limits/Limit" = some m.cls := findClass_of_methodNamed Bd.named
  have hnm := (name_of_methodNamed Bd.named Bd.method).1
  have X0 : Stand p l e ({ frames := 2, cells := 2, slots := 24, locals := 24 } : Room) s m #[(.ref a1), (.ref a2), (.long q3)] below meth c s₁ [] 0 0 := Stand.of_body Bd
  have e0 : s₁.heap = h0 := by rw [← hh, Bd.state]; rfl
  have N0 := Fr.nil n0
  have pre0 : ∀ t, Steps p.tables e below (s₁.setTop (mkF m 0 #[.val (.ref a1), .val (.ref a2), .val (.long q3), .second] [])) t → Steps p.tables e below (s₁.setTop (entryFrame m #[(.ref a1), (.ref a2), (.long q3)] 4)) t := fun t k => castTop (ef_1 m a1 a2 q3) k
  -- pc 1: the constructor of java/lang/Record by its contract rm2
  obtain ⟨_, _, ⟨T4, L4, k4, n4⟩, -, X4, ⟨Lc4, hQ4, l4, y4, z4⟩, st4⟩ := X0.specialBack hx (y := (⟨"java/lang/Record", "<init>", "()V"⟩ : MethodName)) rfl hown (mvT hZ (hw _ (List.mem_of_getElem? (i := 10) rfl))) (mvT hZ (hw _ (List.mem_of_getElem? (i := 11) rfl))) (mvT hZ (hw _ (List.mem_of_getElem? (i := 14) rfl))) (by decide) (backOf (W := 0) (rm2 l Z a0 hw [] a1 h0 n0 Z0) hZ (hw _ (List.mem_of_getElem? (i := 14) rfl)) (hw _ (List.mem_of_getElem? (i := 13) rfl)) (by decide) (by decide)) (g := (mkF m 1 #[.val (.ref a1), .val (.ref a2), .val (.long q3), .second] [(.ref a1)])) rfl (by rw [hml]; rfl) (Steps.refl _) (a := a1) (argsL := []) (rest := []) (lenOf pd_1_1 rfl) rfl (by show 2 * 0 + _ ≤ _; exact Nat.le_of_eq rfl) (hb hby d1_1) (fun _ _ => ⟨rfl, e0, (by decide : 0 + 0 ≤ _), (by decide : 0 + 0 ≤ _)⟩)
  dsimp only [Pt.U, Pt.locs, Pt.cells, Pt.slots] at X4 l4 y4 z4 st4 hQ4
  subst l4 y4 z4
  obtain ⟨rfl, N4q, eq4⟩ := hQ4
  have N4 := Fr.app N0 N4q
  obtain ⟨aS5, T5, h5, k5, X5, e5, E5, Sn, Kn5, hZ, hown, st5⟩ := ldcS (s := s) (vm0 := s.vm) X4 hx hZ hown (hw _ (List.mem_of_getElem? (i := 18) rfl)) (own_wS hw) eq4 (k0 := 0) ((State.WarmedH.refl s).since 0) (Nat.zero_le _) (g := (mkF m 5 #[.val (.ref a1), .val (.ref a2), .val (.long q3), .second] [(.ref a2)])) rfl (hb hby d1_5) (n := 20) (by decide) (by decide) (by decide) (by decide)
  have K5 : Keep h0 h5 [a1] := (Keep.refl h0 [a1]).ext E5
  -- pc 7: java/util/Objects.requireNonNull by its contract rm4
  obtain ⟨_, _, ⟨T6, L6, k6, n6⟩, -, X6, ⟨Lc6, hQ6, l6, y6, z6⟩, st6⟩ := Jvm.LawKit.callS X5 hx (y := (⟨"java/util/Objects", "requireNonNull", "(Ljava/lang/Object;Ljava/lang/String;)Ljava/lang/Object;"⟩ : MethodName)) hown (mvT hZ (hw _ (List.mem_of_getElem? (i := 26) rfl))) (mvT hZ (hw _ (List.mem_of_getElem? (i := 27) rfl))) (mvT hZ (hw _ (List.mem_of_getElem? (i := 28) rfl))) (mvT hZ (hw _ (List.mem_of_getElem? (i := 29) rfl))) (by decide) (backOf (W := 0) (rm4 l Z a0 hw [] a2 aS5 h5 n0 (Nat.le_trans Z0 E5.1)) hZ (hw _ (List.mem_of_getElem? (i := 29) rfl)) (hw _ (List.mem_of_getElem? (i := 28) rfl)) (by decide) (by decide)) (g := (mkF m 7 #[.val (.ref a1), .val (.ref a2), .val (.long q3), .second] [(.ref aS5), (.ref a2)])) rfl (by rw [hml]; rfl) (argsL := [(.ref a2), (.ref aS5)]) (rest := []) (lenOf pd_1_2 rfl) rfl (by show 2 * 0 + _ ≤ _; exact Nat.le_of_eq rfl) (hb hby d1_7) (fun _ _ => ⟨rfl, e5, (by decide : 2 + 0 ≤ _), (by decide : 24 + 0 ≤ _)⟩)
  dsimp only [Pt.U, Pt.locs, Pt.cells, Pt.slots] at X6 l6 y6 z6 st6 hQ6
  subst l6 y6 z6
  obtain ⟨rfl, N6q, eq6⟩ := hQ6
  have N6 := Fr.app N4 N6q
  -- pc 13: com/example/albizia/albizia/limits/Limit.requireNotNegative by its contract rm5
  obtain ⟨_, _, ⟨T7, L7, k7, n7⟩, -, X7, ⟨Lc7, hQ7, l7, y7, z7⟩, st7⟩ := Jvm.LawKit.callS X6 hx (y := (⟨"com/example/albizia/albizia/limits/Limit", "requireNotNegative", "(Lcom/example/albizia/albizia/limits/LimitLevel;J)V"⟩ : MethodName)) hown (mvT hZ (hw _ (List.mem_of_getElem? (i := 30) rfl))) (mvT hZ (hw _ (List.mem_of_getElem? (i := 31) rfl))) (mvT hZ (hw _ (List.mem_of_getElem? (i := 6) rfl))) (mvT hZ (hw _ (List.mem_of_getElem? (i := 32) rfl))) (by decide) (backOf (W := 0) (rm5 l Z a0 hw [] a2 q3 h5 n0 (Nat.le_trans Z0 E5.1) hq3) hZ (hw _ (List.mem_of_getElem? (i := 32) rfl)) (hw _ (List.mem_of_getElem? (i := 6) rfl)) (by decide) (by decide)) (g := (mkF m 13 #[.val (.ref a1), .val (.ref a2), .val (.long q3), .second] [(.long q3), (.ref a2)])) rfl (by rw [hml]; rfl) (argsL := [(.ref a2), (.long q3)]) (rest := []) (lenOf pd_1_0 rfl) rfl (by show 2 * 0 + _ ≤ _; exact Nat.le_of_eq rfl) (hb hby d1_13) (fun _ _ => ⟨rfl, eq6, (by decide : 2 + 0 ≤ _), (by decide : 24 + 0 ≤ _)⟩)
  dsimp only [Pt.U, Pt.locs, Pt.cells, Pt.slots] at X7 l7 y7 z7 st7 hQ7
  subst l7 y7 z7
  obtain ⟨rfl, N7q, eq7⟩ := hQ7
  have N7 := Fr.app N6 N7q
  obtain ⟨T8, h8, X8, e8, W8, st8⟩ := putF X7 hx hZ hown (host := "") (Or.inl (hw _ (List.mem_of_getElem? (i := 33) rfl))) Via.refl eq7 (F_level_a1.ext E5) (E_a1.ext E5) (Or.inr ⟨(hw _ (List.mem_of_getElem? (i := 34) rfl)), rfl, hnm⟩) (hw _ (List.mem_of_getElem? (i := 5) rfl)) (ty := (.object "com/example/albizia/albizia/limits/LimitLevel")) (by decide) rfl rfl (g := (mkF m 18 #[.val (.ref a1), .val (.ref a2), .val (.long q3), .second] [(.ref a2), (.ref a1)])) rfl rfl (hb hby d1_18)
  have Fw8 := (F_level_a1.ext E5).same W8      -- the field now holds (.ref a2)
  have K8 : Keep h0 h8 [a1] := K5.wr W8 (Or.inl (List.mem_of_getElem? (i := 0) rfl))
  have N8 := Fr.snoc X8 N7 g_a1
  obtain ⟨T9, h9, X9, e9, W9, st9⟩ := putF X8 hx hZ hown (host := "") (Or.inl (hw _ (List.mem_of_getElem? (i := 35) rfl))) Via.refl e8 ((F_millis_a1.ext E5).other W8 (Or.inr (slot_ne (Or.inr (hw _ (List.mem_of_getElem? (i := 36) rfl))) (Or.inr (hw _ (List.mem_of_getElem? (i := 34) rfl))) (by decide) (t := .long) (t' := (.object "com/example/albizia/albizia/limits/LimitLevel")) (by decide) (by decide)))) ((E_a1.ext E5).wr W8) (Or.inr ⟨(hw _ (List.mem_of_getElem? (i := 36) rfl)), rfl, hnm⟩) (hw _ (List.mem_of_getElem? (i := 5) rfl)) (ty := .long) (by decide) rfl rfl (g := (mkF m 23 #[.val (.ref a1), .val (.ref a2), .val (.long q3), .second] [(.long q3), (.ref a1)])) rfl rfl (hb hby d1_23)
  have Fw9 := ((F_millis_a1.ext E5).other W8 (Or.inr (slot_ne (Or.inr (hw _ (List.mem_of_getElem? (i := 36) rfl))) (Or.inr (hw _ (List.mem_of_getElem? (i := 34) rfl))) (by decide) (t := .long) (t' := (.object "com/example/albizia/albizia/limits/LimitLevel")) (by decide) (by decide)))).same W9      -- the field now holds (.long q3)
  have K9 : Keep h0 h9 [a1] := K8.wr W9 (Or.inl (List.mem_of_getElem? (i := 0) rfl))
  have N9 := Fr.snoc X9 N8 g_a1
  obtain ⟨fs, hr, hrun, hended, hRW⟩ := X9.leaveW Sn (by rw [e9, W9.size, W8.size]; exact Kn5) (v := none) (fun _ => rfl)
  refine ⟨_, _, pre0 _ ?_, hrun, hended, _, _, rfl, ?_, hRW.1, hRW.2.1, hRW.2.2.1, hRW.2.2.2.mono (by decide) (by decide)⟩
  · show Steps p.tables e below (s₁.setTop (mkF m 0 #[.val (.ref a1), .val (.ref a2), .val (.long q3), .second] [])) _
    refine XS.aloadN X0.here hx rfl (hb hby d1_0) rfl rfl ?_
    show Steps p.tables e below (s₁.setTop (mkF m 1 #[.val (.ref a1), .val (.ref a2), .val (.long q3), .second] [(.ref a1)])) _
    refine st4.trans ?_
    show Steps p.tables e below (T4.setTop (mkF m 4 #[.val (.ref a1), .val (.ref a2), .val (.long q3), .second] [])) _
    refine XS.aloadN X4.here hx rfl (hb hby d1_4) rfl rfl ?_
    show Steps p.tables e below (T4.setTop (mkF m 5 #[.val (.ref a1), .val (.ref a2), .val (.long q3), .second] [(.ref a2)])) _
    refine st5 _ ?_
    show Steps p.tables e below (T5.setTop (mkF m 7 #[.val (.ref a1), .val (.ref a2), .val (.long q3), .second] [(.ref aS5), (.ref a2)])) _
    refine st6 _ ?_
    show Steps p.tables e below (T6.setTop (mkF m 10 #[.val (.ref a1), .val (.ref a2), .val (.long q3), .second] [(.ref a2)])) _
    refine XS.pop X6.here hx rfl (hb hby d1_10) rfl rfl ?_
    show Steps p.tables e below (T6.setTop (mkF m 11 #[.val (.ref a1), .val (.ref a2), .val (.long q3), .second] [])) _
    refine XS.aloadN X6.here hx rfl (hb hby d1_11) rfl rfl ?_
    show Steps p.tables e below (T6.setTop (mkF m 12 #[.val (.ref a1), .val (.ref a2), .val (.long q3), .second] [(.ref a2)])) _
    refine XS.lloadN X6.here hx rfl (hb hby d1_12) rfl ?_
    show Steps p.tables e below (T6.setTop (mkF m 13 #[.val (.ref a1), .val (.ref a2), .val (.long q3), .second] [(.long q3), (.ref a2)])) _
    refine st7 _ ?_
    show Steps p.tables e below (T7.setTop (mkF m 16 #[.val (.ref a1), .val (.ref a2), .val (.long q3), .second] [])) _
    refine XS.aloadN X7.here hx rfl (hb hby d1_16) rfl rfl ?_
    show Steps p.tables e below (T7.setTop (mkF m 17 #[.val (.ref a1), .val (.ref a2), .val (.long q3), .second] [(.ref a1)])) _
    refine XS.aloadN X7.here hx rfl (hb hby d1_17) rfl rfl ?_
    show Steps p.tables e below (T7.setTop (mkF m 18 #[.val (.ref a1), .val (.ref a2), .val (.long q3), .second] [(.ref a2), (.ref a1)])) _
    refine st8 _ ?_
    show Steps p.tables e below (T8.setTop (mkF m 21 #[.val (.ref a1), .val (.ref a2), .val (.long q3), .second] [])) _
    refine XS.aloadN X8.here hx rfl (hb hby d1_21) rfl rfl ?_
    show Steps p.tables e below (T8.setTop (mkF m 22 #[.val (.ref a1), .val (.ref a2), .val (.long q3), .second] [(.ref a1)])) _
    refine XS.lloadN X8.here hx rfl (hb hby d1_22) rfl ?_
    show Steps p.tables e below (T8.setTop (mkF m 23 #[.val (.ref a1), .val (.ref a2), .val (.long q3), .second] [(.long q3), (.ref a1)])) _
    refine st9 _ ?_
    show Steps p.tables e below (T9.setTop (mkF m 26 #[.val (.ref a1), .val (.ref a2), .val (.long q3), .second] [])) _
    exact X9.returnOut hx Bd.returns (hb hby d1_26) hr
  · show Q1 Z a1 a2 q3 u_level_a1 u_millis_a1 h0 n0 _ T9.heap _
    rw [e9]
    exact ⟨rfl, N9, K9, ((E_a1.ext E5).wr W8).wr W9, Fw9⟩


theorem d6_0 : decode prog_17_method_4_code 0 = .ok (.aload_n 0, 1) := by decide +kernel
theorem d6_1 : decode prog_17_method_4_code 1 = .ok (.getfield 24, 3) := by decide +kernel
theorem d6_4 : decode prog_17_method_4_code 4 = .ok (.lconst 0, 1) := by decide +kernel
theorem d6_5 : decode prog_17_method_4_code 5 = .ok (.lcmp, 1) := by decide +kernel
theorem d6_6 : decode prog_17_method_4_code 6 = .ok (.ifCond .ne 7, 3) := by decide +kernel
theorem d6_9 : decode prog_17_method_4_code 9 = .ok (.iconst 1, 1) := by decide +kernel
theorem d6_10 : decode prog_17_method_4_code 10 = .ok (.goto 4, 3) := by decide +kernel
theorem d6_14 : decode prog_17_method_4_code 14 = .ok (.ireturn, 1) := by decide +kernel
theorem pn_6 : plainName "com/example/albizia/albizia/limits/Limit" = true := by first | (simp [plainName, overriddenIn]; done) | decide +kernel
theorem ef_6 (m : MethodId) (x0 : Addr) : entryFrame m #[(.ref x0)] 1 = mkF m 0 #[.val (.ref x0)] [] := by first | (simp [entryFrame, mkF, argsToLocals, Value.category]; done) | rfl
theorem d6_13 : decode prog_17_method_4_code 13 = .ok (.iconst 0, 1) := by decide +kernel

def Q6a (Z : State) (a1 : Addr) (w2 : Int64) (h0 : Heap) (n0 : Nat) (v : Option Value) (h : Heap) (L : List Loc) : Prop := v = some (.int (1 : Int32)) ∧ Fr n0 L ∧ h = h0
set_option maxRecDepth 65536 in
set_option maxHeartbeats 40000000 in
theorem rm6a (l : Launch) (Z : State) (a0 : Array Value) (hw : ∀ d ∈ tables_1, d.before a0 Z = true) (ws : List Jvm.Cond) (a1 : Addr) (w2 : Int64) (h0 : Heap) (n0 : Nat) (Z0 : n0 ≤ h0.size) (F_millis_a1 : Fld Z h0 a1 "com/example/albizia/albizia/limits/Limit" "millis" "J" (.long w2)) (hc6 : (lcmpW w2 (0 : Int64)) = (0 : Int32)) :
    MetFree l (⟨"com/example/albizia/albizia/limits/Limit", "isNone", "()Z"⟩ : MethodName) (head1 (Jvm.Cond.code (⟨"com/example/albizia/albizia/limits/Limit", "isNone", "()Z"⟩ : MethodName) prog_17_method_4_code 1 (some .boolean) :: ws) ({ frames := 0, cells := 0, slots := 0, locals := 0 } : Room)) (fun a U => a = #[(.ref a1)] ∧ Z.Warmed39 U.vm ∧ U.heap = h0) (fun _ _ _ _ _ => True) (fun _ U o U' => ∃ v L, o = .returned v ∧ Q6a Z a1 w2 h0 n0 v U'.heap L ∧ FrameEnd U o U' L ({ frames := 0, cells := 0, slots := 0, locals := 0 } : Room).cells ({ frames := 0, cells := 0, slots := 0, locals := 0 } : Room).slots) := by
  refine MetFree.of_bodySF (plainFor_of_name pn_6) hisR ?_
  intro p e s m args below meth c s₁ Bd hml0 hP hK
  obtain ⟨rfl, hZ, hh⟩ := hP
  have hx := Bd.exec
  have hby := Bd.bytes
  have hml : c.maxLocals = 1 := hml0
  have hown : s.vm.findClass "com/example/albizia/albizia/limits/Limit" = some m.cls := findClass_of_methodNamed Bd.named
  have hnm := (name_of_methodNamed Bd.named Bd.method).1
  have X0 : Stand p l e ({ frames := 0, cells := 0, slots := 0, locals := 0 } : Room) s m #[(.ref a1)] below meth c s₁ [] 0 0 := Stand.of_body Bd
  have e0 : s₁.heap = h0 := by rw [← hh, Bd.state]; rfl
  have N0 := Fr.nil n0
  have pre0 : ∀ t, Steps p.tables e below (s₁.setTop (mkF m 0 #[.val (.ref a1)] [])) t → Steps p.tables e below (s₁.setTop (entryFrame m #[(.ref a1)] 1)) t := fun t k => castTop (ef_6 m a1) k
  obtain ⟨T3, X3, e3, st3⟩ := getF X0 hx hZ hown (host := "") (Or.inl (hw _ (List.mem_of_getElem? (i := 35) rfl))) Via.refl e0 F_millis_a1 (g := (mkF m 1 #[.val (.ref a1)] [(.ref a1)])) rfl rfl (hb hby d6_1)
  obtain ⟨fs, hr, hrun, hended, hW, hsame⟩ := X3.leave (v := some (.int (1 : Int32))) (fun h => by rw [Bd.returns] at h; cases h)
  refine ⟨_, _, pre0 _ ?_, hrun, hended, _, _, rfl, ?_, ⟨_, rfl⟩, hW, hsame.mono (by decide) (by decide)⟩
  · show Steps p.tables e below (s₁.setTop (mkF m 0 #[.val (.ref a1)] [])) _
    refine XS.aloadN X0.here hx rfl (hb hby d6_0) rfl rfl ?_
    show Steps p.tables e below (s₁.setTop (mkF m 1 #[.val (.ref a1)] [(.ref a1)])) _
    refine st3 _ ?_
    show Steps p.tables e below (T3.setTop (mkF m 4 #[.val (.ref a1)] [(.long w2)])) _
    refine XS.lconst X3.here hx rfl (hb hby d6_4) ?_
    show Steps p.tables e below (T3.setTop (mkF m 5 #[.val (.ref a1)] [(.long (0 : Int64)), (.long w2)])) _
    refine XS.lcmp X3.here hx rfl (hb hby d6_5) rfl ?_
    show Steps p.tables e below (T3.setTop (mkF m 6 #[.val (.ref a1)] [(.int (lcmpW w2 (0 : Int64)))])) _
    refine XS.ifNo X3.here hx rfl (hb hby d6_6) rfl ((if0 _ _).trans (teq hc6).2) ?_
    show Steps p.tables e below (T3.setTop (mkF m 9 #[.val (.ref a1)] [])) _
    refine XS.iconst X3.here hx rfl (hb hby d6_9) ?_
    show Steps p.tables e below (T3.setTop (mkF m 10 #[.val (.ref a1)] [(.int (1 : Int32))])) _
    refine XS.goto X3.here hx rfl (pc0 := 10) (pc' := 14) rfl (hb hby d6_10) (by decide) (by decide) ?_
    show Steps p.tables e below (T3.setTop (mkF m 14 #[.val (.ref a1)] [(.int (1 : Int32))])) _
    exact retN X3 hx (t := .boolean) Bd.returns (by simp) (hb hby d6_14) hr
  · show Q6a Z a1 w2 h0 n0 _ T3.heap _
    rw [e3]
    exact ⟨rfl, N0, rfl⟩


def Q6b (Z : State) (a1 : Addr) (w2 : Int64) (h0 : Heap) (n0 : Nat) (v : Option Value) (h : Heap) (L : List Loc) : Prop := v = some (.int (0 : Int32)) ∧ Fr n0 L ∧ h = h0
set_option maxRecDepth 65536 in
set_option maxHeartbeats 40000000 in
theorem rm6b (l : Launch) (Z : State) (a0 : Array Value) (hw : ∀ d ∈ tables_1, d.before a0 Z = true) (ws : List Jvm.Cond) (a1 : Addr) (w2 : Int64) (h0 : Heap) (n0 : Nat) (Z0 : n0 ≤ h0.size) (F_millis_a1 : Fld Z h0 a1 "com/example/albizia/albizia/limits/Limit" "millis" "J" (.long w2)) (hc6 : ¬ ((lcmpW w2 (0 : Int64)) = (0 : Int32))) :
    MetFree l (⟨"com/example/albizia/albizia/limits/Limit", "isNone", "()Z"⟩ : MethodName) (head1 (Jvm.Cond.code (⟨"com/example/albizia/albizia/limits/Limit", "isNone", "()Z"⟩ : MethodName) prog_17_method_4_code 1 (some .boolean) :: ws) ({ frames := 0, cells := 0, slots := 0, locals := 0 } : Room)) (fun a U => a = #[(.ref a1)] ∧ Z.Warmed39 U.vm ∧ U.heap = h0) (fun _ _ _ _ _ => True) (fun _ U o U' => ∃ v L, o = .returned v ∧ Q6b Z a1 w2 h0 n0 v U'.heap L ∧ FrameEnd U o U' L ({ frames := 0, cells := 0, slots := 0, locals := 0 } : Room).cells ({ frames := 0, cells := 0, slots := 0, locals := 0 } : Room).slots) := by
  refine MetFree.of_bodySF (plainFor_of_name pn_6) hisR ?_
  intro p e s m args below meth c s₁ Bd hml0 hP hK
  obtain ⟨rfl, hZ, hh⟩ := hP
  have hx := Bd.exec
  have hby := Bd.bytes
  have hml : c.maxLocals = 1 := hml0
  have hown : s.vm.findClass "com/example/albizia/albizia/limits/Limit" = some m.cls := findClass_of_methodNamed Bd.named
  have hnm := (name_of_methodNamed Bd.named Bd.method).1
  have X0 : Stand p l e ({ frames := 0, cells := 0, slots := 0, locals := 0 } : Room) s m #[(.ref a1)] below meth c s₁ [] 0 0 := Stand.of_body Bd
  have e0 : s₁.heap = h0 := by rw [← hh, Bd.state]; rfl
  have N0 := Fr.nil n0
  have pre0 : ∀ t, Steps p.tables e below (s₁.setTop (mkF m 0 #[.val (.ref a1)] [])) t → Steps p.tables e below (s₁.setTop (entryFrame m #[(.ref a1)] 1)) t := fun t k => castTop (ef_6 m a1) k
  obtain ⟨T3, X3, e3, st3⟩ := getF X0 hx hZ hown (host := "") (Or.inl (hw _ (List.mem_of_getElem? (i := 35) rfl))) Via.refl e0 F_millis_a1 (g := (mkF m 1 #[.val (.ref a1)] [(.ref a1)])) rfl rfl (hb hby d6_1)
  obtain ⟨fs, hr, hrun, hended, hW, hsame⟩ := X3.leave (v := some (.int (0 : Int32))) (fun h => by rw [Bd.returns] at h; cases h)
  refine ⟨_, _, pre0 _ ?_, hrun, hended, _, _, rfl, ?_, ⟨_, rfl⟩, hW, hsame.mono (by decide) (by decide)⟩
  · show Steps p.tables e below (s₁.setTop (mkF m 0 #[.val (.ref a1)] [])) _
    refine XS.aloadN X0.here hx rfl (hb hby d6_0) rfl rfl ?_
    show Steps p.tables e below (s₁.setTop (mkF m 1 #[.val (.ref a1)] [(.ref a1)])) _
    refine st3 _ ?_
    show Steps p.tables e below (T3.setTop (mkF m 4 #[.val (.ref a1)] [(.long w2)])) _
    refine XS.lconst X3.here hx rfl (hb hby d6_4) ?_
    show Steps p.tables e below (T3.setTop (mkF m 5 #[.val (.ref a1)] [(.long (0 : Int64)), (.long w2)])) _
    refine XS.lcmp X3.here hx rfl (hb hby d6_5) rfl ?_
    show Steps p.tables e below (T3.setTop (mkF m 6 #[.val (.ref a1)] [(.int (lcmpW w2 (0 : Int64)))])) _
    refine XS.ifYes X3.here hx rfl (pc0 := 6) (pc' := 13) rfl (hb hby d6_6) rfl ((if0 _ _).trans (feq hc6).2) (by decide) (by decide) ?_
    show Steps p.tables e below (T3.setTop (mkF m 13 #[.val (.ref a1)] [])) _
    refine XS.iconst X3.here hx rfl (hb hby d6_13) ?_
    show Steps p.tables e below (T3.setTop (mkF m 14 #[.val (.ref a1)] [(.int (0 : Int32))])) _
    exact retN X3 hx (t := .boolean) Bd.returns (by simp) (hb hby d6_14) hr
  · show Q6b Z a1 w2 h0 n0 _ T3.heap _
    rw [e3]
    exact ⟨rfl, N0, rfl⟩


def Q0 (n0 : Nat) (v : Option Value) (h : Heap) (L : List Loc) : Prop := v = some (.int (1 : Int32)) ∧ Fr n0 L

theorem pn_0 : plainName "com/example/albizia/albizia/limits/LimitIsNonePinLaw" = true := by first | (simp [plainName, overriddenIn]; done) | decide +kernel
theorem pd_0_0 : parseMethodDescriptor "(Lcom/example/albizia/albizia/limits/LimitLevel;J)V" = some ⟨[(.object "com/example/albizia/albizia/limits/LimitLevel"), .long], none⟩ := by decide +kernel
theorem pd_0_3 : parseMethodDescriptor "()Z" = some ⟨[], some .boolean⟩ := by decide +kernel
theorem ef_0 (m : MethodId) (x0 : Int32) (x1 : Int64) (x2 : Int32) : entryFrame m #[(.int x0), (.long x1), (.int x2)] maxLocals = mkF m 0 #[.val (.int x0), .val (.long x1), .second, .val (.int x2), .unset, .unset, .unset, .unset, .unset, .unset] [] := by first | (simp [entryFrame, mkF, argsToLocals, Value.category, maxLocals]; done) | rfl

set_option maxRecDepth 65536 in
set_option maxHeartbeats 40000000 in
theorem rm0_00 (l : Launch) (Z : State) (a0 : Array Value) (hw : ∀ d ∈ tables_1, d.before a0 Z = true) (ws : List Jvm.Cond) (p1 : Int32) (q2 : Int64) (p3 : Int32) (w4 : Addr) (h0 : Heap) (n0 : Nat) (Z0 : n0 ≤ h0.size) (S_DATABASE : Sta Z h0 "com/example/albizia/albizia/limits/LimitLevel" "DATABASE" "Lcom/example/albizia/albizia/limits/LimitLevel;" (.ref w4)) (hc10 : ((p1 &&& (2147483647 : Int32)) % (3 : Int32)) = (0 : Int32)) (hc43 : ¬ ((p3 &&& (1 : Int32)) = (0 : Int32))) :
    MetFree l x (head1 (Jvm.Cond.code x code maxLocals ret :: ws) room_1) (fun a U => a = #[(.int p1), (.long q2), (.int p3)] ∧ Z.Warmed39 U.vm ∧ U.heap = h0) (fun _ _ _ _ _ => True) (fun _ U o U' => ∃ v L, o = .returned v ∧ Q0 n0 v U'.heap L ∧ ReturnedEndW U o U' L room_1.cells room_1.slots) := by
  refine MetFree.of_bodySF (plainFor_of_name pn_0) hisR ?_
  intro p e s m args below meth c s₁ Bd hml0 hP hK
  obtain ⟨rfl, hZ, hh⟩ := hP
  have hx := Bd.exec
  have hby := Bd.bytes
  have hml : c.maxLocals = 10 := hml0
  have hown : s.vm.findClass "com/example/albizia/albizia/limits/LimitIsNonePinLaw" = some m.cls := findClass_of_methodNamed Bd.named
  have hnm := (name_of_methodNamed Bd.named Bd.method).1
  have X0 : Stand p l e room_1 s m #[(.int p1), (.long q2), (.int p3)] below meth c s₁ [] 0 0 := Stand.of_body Bd
  have e0 : s₁.heap = h0 := by rw [← hh, Bd.state]; rfl
  have N0 := Fr.nil n0
  have pre0 : ∀ t, Steps p.tables e below (s₁.setTop (mkF m 0 #[.val (.int p1), .val (.long q2), .second, .val (.int p3), .unset, .unset, .unset, .unset, .unset, .unset] [])) t → Steps p.tables e below (s₁.setTop (entryFrame m #[(.int p1), (.long q2), (.int p3)] maxLocals)) t := fun t k => castTop (ef_0 m p1 q2 p3) k
  have hZ_0 := hZ
  have hown_0 := hown
  obtain ⟨T5, X5, e5, st5⟩ := getS2 X0 hx hZ hown (host := "") (Or.inl (hw _ (List.mem_of_getElem? (i := 1) rfl))) Via.refl e0 S_DATABASE (g := (mkF m 13 #[.val (.int p1), .val (.long q2), .second, .val (.int p3), .val (.int ((p1 &&& (2147483647 : Int32)) % (3 : Int32))), .unset, .unset, .unset, .unset, .unset] [])) rfl (hb hby at_13)
  obtain ⟨T6, h6, X6, e6, E6, A6, D6, -, st6⟩ := newO X5 hx hZ hown (hw _ (List.mem_of_getElem? (i := 4) rfl)) (hw _ (List.mem_of_getElem? (i := 5) rfl)) (hw _ (List.mem_of_getElem? (i := 6) rfl)) e5 (g := (mkF m 59 #[.val (.int p1), .val (.long q2), .second, .val (.int p3), .val (.int ((p1 &&& (2147483647 : Int32)) % (3 : Int32))), .val (.ref w4), .val (.long (0 : Int64)), .second, .unset, .unset] [])) rfl (hb hby at_59) (by decide) (by decide)
  obtain ⟨b6, g6⟩ : ∃ z, z = h0.size := ⟨_, rfl⟩      -- the fresh object's address
  rw [← g6] at A6 D6 st6      -- A6 : Exa Z h6 b6 "com/example/albizia/albizia/limits/Limit"; E6 : Ext h0 h6 (carries every older fact: .ext E6)
  have F_level_b6 : Fld Z h6 b6 "com/example/albizia/albizia/limits/Limit" "level" "Lcom/example/albizia/albizia/limits/LimitLevel;" .null := D6 (Or.inr (hw _ (List.mem_of_getElem? (i := 34) rfl))) (ty := (.object "com/example/albizia/albizia/limits/LimitLevel")) (by decide)
  have F_millis_b6 : Fld Z h6 b6 "com/example/albizia/albizia/limits/Limit" "millis" "J" (.long (0 : Int64)) := D6 (Or.inr (hw _ (List.mem_of_getElem? (i := 36) rfl))) (ty := .long) (by decide)
  have E_b6 := A6
  have g_b6 : n0 ≤ b6 := Nat.le_trans Z0 (Nat.le_of_eq g6.symm)
  have sz_b6 : h0.size ≤ b6 := (Nat.le_trans (Keep.refl h0 []).1 (Nat.le_of_eq g6.symm))
  have K6 : Keep h0 h6 [] := (Keep.refl h0 []).ext E6
  -- pc 67: the constructor of com/example/albizia/albizia/limits/Limit by its contract rm1
  obtain ⟨_, _, ⟨T7, L7, k7, n7⟩, -, X7, Sn7, Gn7, ⟨Lc7, hQ7, l7, y7, z7⟩, st7⟩ := X6.specialBackS hx (y := (⟨"com/example/albizia/albizia/limits/Limit", "<init>", "(Lcom/example/albizia/albizia/limits/LimitLevel;J)V"⟩ : MethodName)) rfl hown (mvT hZ (hw _ (List.mem_of_getElem? (i := 7) rfl))) (mvT hZ (hw _ (List.mem_of_getElem? (i := 8) rfl))) (mvT hZ (hw _ (List.mem_of_getElem? (i := 9) rfl))) (by decide) (backOfS (W := 1) (rm1 l Z a0 hw [] b6 w4 (0 : Int64) .null (.long (0 : Int64)) h6 n0 (Nat.le_trans Z0 E6.1) E_b6 F_level_b6 g_b6 F_millis_b6 (by decide)) hZ (hw _ (List.mem_of_getElem? (i := 9) rfl)) (hw _ (List.mem_of_getElem? (i := 6) rfl)) (by decide) (by decide)) (g := (mkF m 67 #[.val (.int p1), .val (.long q2), .second, .val (.int p3), .val (.int ((p1 &&& (2147483647 : Int32)) % (3 : Int32))), .val (.ref w4), .val (.long (0 : Int64)), .second, .unset, .unset] [(.long (0 : Int64)), (.ref w4), (.ref b6), (.ref b6)])) rfl (by rw [hml]; rfl) (Steps.refl _) (a := b6) (argsL := [(.ref w4), (.long (0 : Int64))]) (rest := [(.ref b6)]) (lenOf pd_0_0 rfl) rfl (by show 2 * 0 + _ ≤ _; exact Nat.le_of_eq rfl) (hb hby at_67) (fun _ _ => ⟨rfl, e6, (by decide : 1 + 2 ≤ _), (by decide : 2 + 24 ≤ _)⟩)
  dsimp only [Pt.U, Pt.locs, Pt.cells, Pt.slots] at X7 l7 y7 z7 st7 hQ7
  subst l7 y7 z7
  obtain ⟨rfl, N7q, K1q, E1q, F1q⟩ := hQ7
  have N7 := Fr.app N0 N7q
  have hZ : Z.Warmed39 (s.setVm T7.vm).vm := State.Warmed39.trans (t := s) hZ Sn7.1
  have hown : (s.setVm T7.vm).vm.findClass "com/example/albizia/albizia/limits/LimitIsNonePinLaw" = some m.cls := by rw [show (s.setVm T7.vm).vm = T7.vm from rfl, Sn7.1.alike.findClass]; exact hown
  -- pc 88: com/example/albizia/albizia/limits/Limit.isNone by the contract of the body that the receiver's class selects, rm6
  obtain ⟨cq8, kq8, q8a, q8b, q8c⟩ := isOf hZ rfl E1q
  obtain ⟨_, _, ⟨T8, L8, k8, n8⟩, -, X8, ⟨Lc8, hQ8, l8, y8, z8⟩, st8⟩ := X7.virtualBack hx (y := (⟨"com/example/albizia/albizia/limits/Limit", "isNone", "()Z"⟩ : MethodName)) (z := (⟨"com/example/albizia/albizia/limits/Limit", "isNone", "()Z"⟩ : MethodName)) hown (mvT hZ (hw _ (List.mem_of_getElem? (i := 37) rfl))) (mvT hZ (hw _ (List.mem_of_getElem? (i := 38) rfl))) (notFace_of_selects (args := #[]) (mvT hZ (hw _ (List.mem_of_getElem? (i := 40) rfl)))) (mvT hZ (hw _ (List.mem_of_getElem? (i := 40) rfl))) (mvT hZ (hw _ (List.mem_of_getElem? (i := 39) rfl))) (by decide) (backOf (W := 0) (rm6a l Z a0 hw [] b6 (0 : Int64) T7.heap n0 (Nat.le_trans Z0 (Nat.le_trans E6.1 K1q.1)) F1q (by decide)) hZ (hw _ (List.mem_of_getElem? (i := 41) rfl)) (hw _ (List.mem_of_getElem? (i := 6) rfl)) (by decide) (by decide)) q8a q8c (g := (mkF m 88 #[.val (.int p1), .val (.long q2), .second, .val (.int p3), .val (.int ((p1 &&& (2147483647 : Int32)) % (3 : Int32))), .val (.ref w4), .val (.long (0 : Int64)), .second, .val (.ref b6), .val (.int (1 : Int32))] [(.ref b6)])) rfl (by rw [hml]; rfl) (Steps.refl _) (argsL := []) (rest := []) (lenOf pd_0_3 rfl) rfl (by show 2 * 0 + _ ≤ _; exact Nat.le_of_eq rfl) (hb hby at_88) (fun _ _ => ⟨rfl, rfl, (by decide : 3 + 0 ≤ _), (by decide : 26 + 0 ≤ _)⟩)
  dsimp only [Pt.U, Pt.locs, Pt.cells, Pt.slots] at X8 l8 y8 z8 st8 hQ8
  subst l8 y8 z8
  obtain ⟨rfl, N8q, eq8⟩ := hQ8
  have N8 := Fr.app N7 N8q
  obtain ⟨fs, hr, hrun, hended, hRW⟩ := X8.leaveW Sn7 (Nat.le_of_eq (congrArg (fun hh : Heap => hh.size) eq8.symm)) (v := some (.int (1 : Int32))) (fun h => by rw [Bd.returns] at h; cases h)
  refine ⟨_, _, pre0 _ ?_, hrun, hended, _, _, rfl, ?_, hRW.1, hRW.2.1, hRW.2.2.1, hRW.2.2.2.mono (by decide) (by decide)⟩
  · show Steps p.tables e below (s₁.setTop (mkF m 0 #[.val (.int p1), .val (.long q2), .second, .val (.int p3), .unset, .unset, .unset, .unset, .unset, .unset] [])) _
    refine XS.iloadN X0.here hx rfl (hb hby at_0) rfl ?_
    show Steps p.tables e below (s₁.setTop (mkF m 1 #[.val (.int p1), .val (.long q2), .second, .val (.int p3), .unset, .unset, .unset, .unset, .unset, .unset] [(.int p1)])) _
    refine ldcI X0 hx hown_0 (mvT hZ_0 (hw _ (List.mem_of_getElem? (i := 0) rfl))) rfl (hb hby at_1) ?_
    show Steps p.tables e below (s₁.setTop (mkF m 3 #[.val (.int p1), .val (.long q2), .second, .val (.int p3), .unset, .unset, .unset, .unset, .unset, .unset] [(.int (2147483647 : Int32)), (.int p1)])) _
    refine XS.iand X0.here hx rfl (hb hby at_3) rfl ?_
    show Steps p.tables e below (s₁.setTop (mkF m 4 #[.val (.int p1), .val (.long q2), .second, .val (.int p3), .unset, .unset, .unset, .unset, .unset, .unset] [(.int (p1 &&& (2147483647 : Int32)))])) _
    refine XS.iconst X0.here hx rfl (hb hby at_4) ?_
    show Steps p.tables e below (s₁.setTop (mkF m 5 #[.val (.int p1), .val (.long q2), .second, .val (.int p3), .unset, .unset, .unset, .unset, .unset, .unset] [(.int (3 : Int32)), (.int (p1 &&& (2147483647 : Int32)))])) _
    refine iremM X0 hx rfl (hb hby at_5) rfl (by decide) ?_
    show Steps p.tables e below (s₁.setTop (mkF m 6 #[.val (.int p1), .val (.long q2), .second, .val (.int p3), .unset, .unset, .unset, .unset, .unset, .unset] [(.int ((p1 &&& (2147483647 : Int32)) % (3 : Int32)))])) _
    refine XS.istore X0.here hx rfl (hb hby at_6) rfl (l' := #[.val (.int p1), .val (.long q2), .second, .val (.int p3), .val (.int ((p1 &&& (2147483647 : Int32)) % (3 : Int32))), .unset, .unset, .unset, .unset, .unset]) rfl ?_
    show Steps p.tables e below (s₁.setTop (mkF m 8 #[.val (.int p1), .val (.long q2), .second, .val (.int p3), .val (.int ((p1 &&& (2147483647 : Int32)) % (3 : Int32))), .unset, .unset, .unset, .unset, .unset] [])) _
    refine XS.iload X0.here hx rfl (hb hby at_8) rfl ?_
    show Steps p.tables e below (s₁.setTop (mkF m 10 #[.val (.int p1), .val (.long q2), .second, .val (.int p3), .val (.int ((p1 &&& (2147483647 : Int32)) % (3 : Int32))), .unset, .unset, .unset, .unset, .unset] [(.int ((p1 &&& (2147483647 : Int32)) % (3 : Int32)))])) _
    refine XS.ifNo X0.here hx rfl (hb hby at_10) rfl ((if0 _ _).trans (teq hc10).2) ?_
    show Steps p.tables e below (s₁.setTop (mkF m 13 #[.val (.int p1), .val (.long q2), .second, .val (.int p3), .val (.int ((p1 &&& (2147483647 : Int32)) % (3 : Int32))), .unset, .unset, .unset, .unset, .unset] [])) _
    refine st5 _ ?_
    show Steps p.tables e below (T5.setTop (mkF m 16 #[.val (.int p1), .val (.long q2), .second, .val (.int p3), .val (.int ((p1 &&& (2147483647 : Int32)) % (3 : Int32))), .unset, .unset, .unset, .unset, .unset] [(.ref w4)])) _
    refine XS.astore X5.here hx rfl (hb hby at_16) rfl rfl (l' := #[.val (.int p1), .val (.long q2), .second, .val (.int p3), .val (.int ((p1 &&& (2147483647 : Int32)) % (3 : Int32))), .val (.ref w4), .unset, .unset, .unset, .unset]) rfl ?_
    show Steps p.tables e below (T5.setTop (mkF m 18 #[.val (.int p1), .val (.long q2), .second, .val (.int p3), .val (.int ((p1 &&& (2147483647 : Int32)) % (3 : Int32))), .val (.ref w4), .unset, .unset, .unset, .unset] [])) _
    refine XS.goto X5.here hx rfl (pc0 := 18) (pc' := 40) rfl (hb hby at_18) (by decide) (by decide) ?_
    show Steps p.tables e below (T5.setTop (mkF m 40 #[.val (.int p1), .val (.long q2), .second, .val (.int p3), .val (.int ((p1 &&& (2147483647 : Int32)) % (3 : Int32))), .val (.ref w4), .unset, .unset, .unset, .unset] [])) _
    refine XS.iloadN X5.here hx rfl (hb hby at_40) rfl ?_
    show Steps p.tables e below (T5.setTop (mkF m 41 #[.val (.int p1), .val (.long q2), .second, .val (.int p3), .val (.int ((p1 &&& (2147483647 : Int32)) % (3 : Int32))), .val (.ref w4), .unset, .unset, .unset, .unset] [(.int p3)])) _
    refine XS.iconst X5.here hx rfl (hb hby at_41) ?_
    show Steps p.tables e below (T5.setTop (mkF m 42 #[.val (.int p1), .val (.long q2), .second, .val (.int p3), .val (.int ((p1 &&& (2147483647 : Int32)) % (3 : Int32))), .val (.ref w4), .unset, .unset, .unset, .unset] [(.int (1 : Int32)), (.int p3)])) _
    refine XS.iand X5.here hx rfl (hb hby at_42) rfl ?_
    show Steps p.tables e below (T5.setTop (mkF m 43 #[.val (.int p1), .val (.long q2), .second, .val (.int p3), .val (.int ((p1 &&& (2147483647 : Int32)) % (3 : Int32))), .val (.ref w4), .unset, .unset, .unset, .unset] [(.int (p3 &&& (1 : Int32)))])) _
    refine XS.ifNo X5.here hx rfl (hb hby at_43) rfl ((if0 _ _).trans (feq hc43).1) ?_
    show Steps p.tables e below (T5.setTop (mkF m 46 #[.val (.int p1), .val (.long q2), .second, .val (.int p3), .val (.int ((p1 &&& (2147483647 : Int32)) % (3 : Int32))), .val (.ref w4), .unset, .unset, .unset, .unset] [])) _
    refine XS.lconst X5.here hx rfl (hb hby at_46) ?_
    show Steps p.tables e below (T5.setTop (mkF m 47 #[.val (.int p1), .val (.long q2), .second, .val (.int p3), .val (.int ((p1 &&& (2147483647 : Int32)) % (3 : Int32))), .val (.ref w4), .unset, .unset, .unset, .unset] [(.long (0 : Int64))])) _
    refine XS.lstore X5.here hx rfl (hb hby at_47) rfl (l' := #[.val (.int p1), .val (.long q2), .second, .val (.int p3), .val (.int ((p1 &&& (2147483647 : Int32)) % (3 : Int32))), .val (.ref w4), .val (.long (0 : Int64)), .second, .unset, .unset]) rfl ?_
    show Steps p.tables e below (T5.setTop (mkF m 49 #[.val (.int p1), .val (.long q2), .second, .val (.int p3), .val (.int ((p1 &&& (2147483647 : Int32)) % (3 : Int32))), .val (.ref w4), .val (.long (0 : Int64)), .second, .unset, .unset] [])) _
    refine XS.goto X5.here hx rfl (pc0 := 49) (pc' := 59) rfl (hb hby at_49) (by decide) (by decide) ?_
    show Steps p.tables e below (T5.setTop (mkF m 59 #[.val (.int p1), .val (.long q2), .second, .val (.int p3), .val (.int ((p1 &&& (2147483647 : Int32)) % (3 : Int32))), .val (.ref w4), .val (.long (0 : Int64)), .second, .unset, .unset] [])) _
    refine st6 _ ?_
    show Steps p.tables e below (T6.setTop (mkF m 62 #[.val (.int p1), .val (.long q2), .second, .val (.int p3), .val (.int ((p1 &&& (2147483647 : Int32)) % (3 : Int32))), .val (.ref w4), .val (.long (0 : Int64)), .second, .unset, .unset] [(.ref b6)])) _
    refine XS.dup X6.here hx rfl (hb hby at_62) rfl rfl ?_
    show Steps p.tables e below (T6.setTop (mkF m 63 #[.val (.int p1), .val (.long q2), .second, .val (.int p3), .val (.int ((p1 &&& (2147483647 : Int32)) % (3 : Int32))), .val (.ref w4), .val (.long (0 : Int64)), .second, .unset, .unset] [(.ref b6), (.ref b6)])) _
    refine XS.aload X6.here hx rfl (hb hby at_63) rfl rfl ?_
    show Steps p.tables e below (T6.setTop (mkF m 65 #[.val (.int p1), .val (.long q2), .second, .val (.int p3), .val (.int ((p1 &&& (2147483647 : Int32)) % (3 : Int32))), .val (.ref w4), .val (.long (0 : Int64)), .second, .unset, .unset] [(.ref w4), (.ref b6), (.ref b6)])) _
    refine XS.lload X6.here hx rfl (hb hby at_65) rfl ?_
    show Steps p.tables e below (T6.setTop (mkF m 67 #[.val (.int p1), .val (.long q2), .second, .val (.int p3), .val (.int ((p1 &&& (2147483647 : Int32)) % (3 : Int32))), .val (.ref w4), .val (.long (0 : Int64)), .second, .unset, .unset] [(.long (0 : Int64)), (.ref w4), (.ref b6), (.ref b6)])) _
    refine st7.trans ?_
    show Steps p.tables e below (T7.setTop (mkF m 70 #[.val (.int p1), .val (.long q2), .second, .val (.int p3), .val (.int ((p1 &&& (2147483647 : Int32)) % (3 : Int32))), .val (.ref w4), .val (.long (0 : Int64)), .second, .unset, .unset] [(.ref b6)])) _
    refine XS.astore X7.here hx rfl (hb hby at_70) rfl rfl (l' := #[.val (.int p1), .val (.long q2), .second, .val (.int p3), .val (.int ((p1 &&& (2147483647 : Int32)) % (3 : Int32))), .val (.ref w4), .val (.long (0 : Int64)), .second, .val (.ref b6), .unset]) rfl ?_
    show Steps p.tables e below (T7.setTop (mkF m 72 #[.val (.int p1), .val (.long q2), .second, .val (.int p3), .val (.int ((p1 &&& (2147483647 : Int32)) % (3 : Int32))), .val (.ref w4), .val (.long (0 : Int64)), .second, .val (.ref b6), .unset] [])) _
    refine XS.lload X7.here hx rfl (hb hby at_72) rfl ?_
    show Steps p.tables e below (T7.setTop (mkF m 74 #[.val (.int p1), .val (.long q2), .second, .val (.int p3), .val (.int ((p1 &&& (2147483647 : Int32)) % (3 : Int32))), .val (.ref w4), .val (.long (0 : Int64)), .second, .val (.ref b6), .unset] [(.long (0 : Int64))])) _
    refine XS.lconst X7.here hx rfl (hb hby at_74) ?_
    show Steps p.tables e below (T7.setTop (mkF m 75 #[.val (.int p1), .val (.long q2), .second, .val (.int p3), .val (.int ((p1 &&& (2147483647 : Int32)) % (3 : Int32))), .val (.ref w4), .val (.long (0 : Int64)), .second, .val (.ref b6), .unset] [(.long (0 : Int64)), (.long (0 : Int64))])) _
    refine XS.lcmp X7.here hx rfl (hb hby at_75) rfl ?_
    show Steps p.tables e below (T7.setTop (mkF m 76 #[.val (.int p1), .val (.long q2), .second, .val (.int p3), .val (.int ((p1 &&& (2147483647 : Int32)) % (3 : Int32))), .val (.ref w4), .val (.long (0 : Int64)), .second, .val (.ref b6), .unset] [(.int (lcmpW (0 : Int64) (0 : Int64)))])) _
    refine XS.ifNo X7.here hx rfl (hb hby at_76) rfl ((if0 _ _).trans (teq (by decide : (lcmpW (0 : Int64) (0 : Int64)) = (0 : Int32))).2) ?_
    show Steps p.tables e below (T7.setTop (mkF m 79 #[.val (.int p1), .val (.long q2), .second, .val (.int p3), .val (.int ((p1 &&& (2147483647 : Int32)) % (3 : Int32))), .val (.ref w4), .val (.long (0 : Int64)), .second, .val (.ref b6), .unset] [])) _
    refine XS.iconst X7.here hx rfl (hb hby at_79) ?_
    show Steps p.tables e below (T7.setTop (mkF m 80 #[.val (.int p1), .val (.long q2), .second, .val (.int p3), .val (.int ((p1 &&& (2147483647 : Int32)) % (3 : Int32))), .val (.ref w4), .val (.long (0 : Int64)), .second, .val (.ref b6), .unset] [(.int (1 : Int32))])) _
    refine XS.goto X7.here hx rfl (pc0 := 80) (pc' := 84) rfl (hb hby at_80) (by decide) (by decide) ?_
    show Steps p.tables e below (T7.setTop (mkF m 84 #[.val (.int p1), .val (.long q2), .second, .val (.int p3), .val (.int ((p1 &&& (2147483647 : Int32)) % (3 : Int32))), .val (.ref w4), .val (.long (0 : Int64)), .second, .val (.ref b6), .unset] [(.int (1 : Int32))])) _
    refine XS.istore X7.here hx rfl (hb hby at_84) rfl (l' := #[.val (.int p1), .val (.long q2), .second, .val (.int p3), .val (.int ((p1 &&& (2147483647 : Int32)) % (3 : Int32))), .val (.ref w4), .val (.long (0 : Int64)), .second, .val (.ref b6), .val (.int (1 : Int32))]) rfl ?_
    show Steps p.tables e below (T7.setTop (mkF m 86 #[.val (.int p1), .val (.long q2), .second, .val (.int p3), .val (.int ((p1 &&& (2147483647 : Int32)) % (3 : Int32))), .val (.ref w4), .val (.long (0 : Int64)), .second, .val (.ref b6), .val (.int (1 : Int32))] [])) _
    refine XS.aload X7.here hx rfl (hb hby at_86) rfl rfl ?_
    show Steps p.tables e below (T7.setTop (mkF m 88 #[.val (.int p1), .val (.long q2), .second, .val (.int p3), .val (.int ((p1 &&& (2147483647 : Int32)) % (3 : Int32))), .val (.ref w4), .val (.long (0 : Int64)), .second, .val (.ref b6), .val (.int (1 : Int32))] [(.ref b6)])) _
    refine st8.trans ?_
    show Steps p.tables e below (T8.setTop (mkF m 91 #[.val (.int p1), .val (.long q2), .second, .val (.int p3), .val (.int ((p1 &&& (2147483647 : Int32)) % (3 : Int32))), .val (.ref w4), .val (.long (0 : Int64)), .second, .val (.ref b6), .val (.int (1 : Int32))] [(.int (1 : Int32))])) _
    refine XS.iload X8.here hx rfl (hb hby at_91) rfl ?_
    show Steps p.tables e below (T8.setTop (mkF m 93 #[.val (.int p1), .val (.long q2), .second, .val (.int p3), .val (.int ((p1 &&& (2147483647 : Int32)) % (3 : Int32))), .val (.ref w4), .val (.long (0 : Int64)), .second, .val (.ref b6), .val (.int (1 : Int32))] [(.int (1 : Int32)), (.int (1 : Int32))])) _
    refine XS.icmpNo X8.here hx rfl (hb hby at_93) rfl (teq (rfl : (1 : Int32) = (1 : Int32))).2 ?_
    show Steps p.tables e below (T8.setTop (mkF m 96 #[.val (.int p1), .val (.long q2), .second, .val (.int p3), .val (.int ((p1 &&& (2147483647 : Int32)) % (3 : Int32))), .val (.ref w4), .val (.long (0 : Int64)), .second, .val (.ref b6), .val (.int (1 : Int32))] [])) _
    refine XS.iconst X8.here hx rfl (hb hby at_96) ?_
    show Steps p.tables e below (T8.setTop (mkF m 97 #[.val (.int p1), .val (.long q2), .second, .val (.int p3), .val (.int ((p1 &&& (2147483647 : Int32)) % (3 : Int32))), .val (.ref w4), .val (.long (0 : Int64)), .second, .val (.ref b6), .val (.int (1 : Int32))] [(.int (1 : Int32))])) _
    refine XS.goto X8.here hx rfl (pc0 := 97) (pc' := 101) rfl (hb hby at_97) (by decide) (by decide) ?_
    show Steps p.tables e below (T8.setTop (mkF m 101 #[.val (.int p1), .val (.long q2), .second, .val (.int p3), .val (.int ((p1 &&& (2147483647 : Int32)) % (3 : Int32))), .val (.ref w4), .val (.long (0 : Int64)), .second, .val (.ref b6), .val (.int (1 : Int32))] [(.int (1 : Int32))])) _
    exact retN X8 hx (t := .boolean) Bd.returns (by simp) (hb hby at_101) hr
  · show Q0 n0 _ T8.heap _
    rw [eq8]
    exact ⟨rfl, N8⟩

set_option maxRecDepth 65536 in
set_option maxHeartbeats 40000000 in
theorem rm0_01 (l : Launch) (Z : State) (a0 : Array Value) (hw : ∀ d ∈ tables_1, d.before a0 Z = true) (ws : List Jvm.Cond) (p1 : Int32) (q2 : Int64) (p3 : Int32) (w4 : Addr) (h0 : Heap) (n0 : Nat) (Z0 : n0 ≤ h0.size) (S_DATABASE : Sta Z h0 "com/example/albizia/albizia/limits/LimitLevel" "DATABASE" "Lcom/example/albizia/albizia/limits/LimitLevel;" (.ref w4)) (hc10 : ((p1 &&& (2147483647 : Int32)) % (3 : Int32)) = (0 : Int32)) (hc43 : (p3 &&& (1 : Int32)) = (0 : Int32)) (hc76 : (lcmpW (q2 &&& (9223372036854775807 : Int64)) (0 : Int64)) = (0 : Int32)) :
    MetFree l x (head1 (Jvm.Cond.code x code maxLocals ret :: ws) room_1) (fun a U => a = #[(.int p1), (.long q2), (.int p3)] ∧ Z.Warmed39 U.vm ∧ U.heap = h0) (fun _ _ _ _ _ => True) (fun _ U o U' => ∃ v L, o = .returned v ∧ Q0 n0 v U'.heap L ∧ ReturnedEndW U o U' L room_1.cells room_1.slots) := by
  refine MetFree.of_bodySF (plainFor_of_name pn_0) hisR ?_
  intro p e s m args below meth c s₁ Bd hml0 hP hK
  obtain ⟨rfl, hZ, hh⟩ := hP
  have hx := Bd.exec
  have hby := Bd.bytes
  have hml : c.maxLocals = 10 := hml0
  have hown : s.vm.findClass "com/example/albizia/albizia/limits/LimitIsNonePinLaw" = some m.cls := findClass_of_methodNamed Bd.named
  have hnm := (name_of_methodNamed Bd.named Bd.method).1
  have X0 : Stand p l e room_1 s m #[(.int p1), (.long q2), (.int p3)] below meth c s₁ [] 0 0 := Stand.of_body Bd
  have e0 : s₁.heap = h0 := by rw [← hh, Bd.state]; rfl
  have N0 := Fr.nil n0
  have pre0 : ∀ t, Steps p.tables e below (s₁.setTop (mkF m 0 #[.val (.int p1), .val (.long q2), .second, .val (.int p3), .unset, .unset, .unset, .unset, .unset, .unset] [])) t → Steps p.tables e below (s₁.setTop (entryFrame m #[(.int p1), (.long q2), (.int p3)] maxLocals)) t := fun t k => castTop (ef_0 m p1 q2 p3) k
  have hZ_0 := hZ
  have hown_0 := hown
  obtain ⟨T5, X5, e5, st5⟩ := getS2 X0 hx hZ hown (host := "") (Or.inl (hw _ (List.mem_of_getElem? (i := 1) rfl))) Via.refl e0 S_DATABASE (g := (mkF m 13 #[.val (.int p1), .val (.long q2), .second, .val (.int p3), .val (.int ((p1 &&& (2147483647 : Int32)) % (3 : Int32))), .unset, .unset, .unset, .unset, .unset] [])) rfl (hb hby at_13)
  obtain ⟨T6, h6, X6, e6, E6, A6, D6, -, st6⟩ := newO X5 hx hZ hown (hw _ (List.mem_of_getElem? (i := 4) rfl)) (hw _ (List.mem_of_getElem? (i := 5) rfl)) (hw _ (List.mem_of_getElem? (i := 6) rfl)) e5 (g := (mkF m 59 #[.val (.int p1), .val (.long q2), .second, .val (.int p3), .val (.int ((p1 &&& (2147483647 : Int32)) % (3 : Int32))), .val (.ref w4), .val (.long (q2 &&& (9223372036854775807 : Int64))), .second, .unset, .unset] [])) rfl (hb hby at_59) (by decide) (by decide)
  obtain ⟨b6, g6⟩ : ∃ z, z = h0.size := ⟨_, rfl⟩      -- the fresh object's address
  rw [← g6] at A6 D6 st6      -- A6 : Exa Z h6 b6 "com/example/albizia/albizia/limits/Limit"; E6 : Ext h0 h6 (carries every older fact: .ext E6)
  have F_level_b6 : Fld Z h6 b6 "com/example/albizia/albizia/limits/Limit" "level" "Lcom/example/albizia/albizia/limits/LimitLevel;" .null := D6 (Or.inr (hw _ (List.mem_of_getElem? (i := 34) rfl))) (ty := (.object "com/example/albizia/albizia/limits/LimitLevel")) (by decide)
  have F_millis_b6 : Fld Z h6 b6 "com/example/albizia/albizia/limits/Limit" "millis" "J" (.long (0 : Int64)) := D6 (Or.inr (hw _ (List.mem_of_getElem? (i := 36) rfl))) (ty := .long) (by decide)
  have E_b6 := A6
  have g_b6 : n0 ≤ b6 := Nat.le_trans Z0 (Nat.le_of_eq g6.symm)
  have sz_b6 : h0.size ≤ b6 := (Nat.le_trans (Keep.refl h0 []).1 (Nat.le_of_eq g6.symm))
  have K6 : Keep h0 h6 [] := (Keep.refl h0 []).ext E6
  -- pc 67: the constructor of com/example/albizia/albizia/limits/Limit by its contract rm1
  obtain ⟨_, _, ⟨T7, L7, k7, n7⟩, -, X7, Sn7, Gn7, ⟨Lc7, hQ7, l7, y7, z7⟩, st7⟩ := X6.specialBackS hx (y := (⟨"com/example/albizia/albizia/limits/Limit", "<init>", "(Lcom/example/albizia/albizia/limits/LimitLevel;J)V"⟩ : MethodName)) rfl hown (mvT hZ (hw _ (List.mem_of_getElem? (i := 7) rfl))) (mvT hZ (hw _ (List.mem_of_getElem? (i := 8) rfl))) (mvT hZ (hw _ (List.mem_of_getElem? (i := 9) rfl))) (by decide) (backOfS (W := 1) (rm1 l Z a0 hw [] b6 w4 (q2 &&& (9223372036854775807 : Int64)) .null (.long (0 : Int64)) h6 n0 (Nat.le_trans Z0 E6.1) E_b6 F_level_b6 g_b6 F_millis_b6 (own_nn q2)) hZ (hw _ (List.mem_of_getElem? (i := 9) rfl)) (hw _ (List.mem_of_getElem? (i := 6) rfl)) (by decide) (by decide)) (g := (mkF m 67 #[.val (.int p1), .val (.long q2), .second, .val (.int p3), .val (.int ((p1 &&& (2147483647 : Int32)) % (3 : Int32))), .val (.ref w4), .val (.long (q2 &&& (9223372036854775807 : Int64))), .second, .unset, .unset] [(.long (q2 &&& (9223372036854775807 : Int64))), (.ref w4), (.ref b6), (.ref b6)])) rfl (by rw [hml]; rfl) (Steps.refl _) (a := b6) (argsL := [(.ref w4), (.long (q2 &&& (9223372036854775807 : Int64)))]) (rest := [(.ref b6)]) (lenOf pd_0_0 rfl) rfl (by show 2 * 0 + _ ≤ _; exact Nat.le_of_eq rfl) (hb hby at_67) (fun _ _ => ⟨rfl, e6, (by decide : 1 + 2 ≤ _), (by decide : 2 + 24 ≤ _)⟩)
  dsimp only [Pt.U, Pt.locs, Pt.cells, Pt.slots] at X7 l7 y7 z7 st7 hQ7
  subst l7 y7 z7
  obtain ⟨rfl, N7q, K1q, E1q, F1q⟩ := hQ7
  have N7 := Fr.app N0 N7q
  have hZ : Z.Warmed39 (s.setVm T7.vm).vm := State.Warmed39.trans (t := s) hZ Sn7.1
  have hown : (s.setVm T7.vm).vm.findClass "com/example/albizia/albizia/limits/LimitIsNonePinLaw" = some m.cls := by rw [show (s.setVm T7.vm).vm = T7.vm from rfl, Sn7.1.alike.findClass]; exact hown
  -- pc 88: com/example/albizia/albizia/limits/Limit.isNone by the contract of the body that the receiver's class selects, rm6
  obtain ⟨cq8, kq8, q8a, q8b, q8c⟩ := isOf hZ rfl E1q
  obtain ⟨_, _, ⟨T8, L8, k8, n8⟩, -, X8, ⟨Lc8, hQ8, l8, y8, z8⟩, st8⟩ := X7.virtualBack hx (y := (⟨"com/example/albizia/albizia/limits/Limit", "isNone", "()Z"⟩ : MethodName)) (z := (⟨"com/example/albizia/albizia/limits/Limit", "isNone", "()Z"⟩ : MethodName)) hown (mvT hZ (hw _ (List.mem_of_getElem? (i := 37) rfl))) (mvT hZ (hw _ (List.mem_of_getElem? (i := 38) rfl))) (notFace_of_selects (args := #[]) (mvT hZ (hw _ (List.mem_of_getElem? (i := 40) rfl)))) (mvT hZ (hw _ (List.mem_of_getElem? (i := 40) rfl))) (mvT hZ (hw _ (List.mem_of_getElem? (i := 39) rfl))) (by decide) (backOf (W := 0) (rm6a l Z a0 hw [] b6 (q2 &&& (9223372036854775807 : Int64)) T7.heap n0 (Nat.le_trans Z0 (Nat.le_trans E6.1 K1q.1)) F1q hc76) hZ (hw _ (List.mem_of_getElem? (i := 41) rfl)) (hw _ (List.mem_of_getElem? (i := 6) rfl)) (by decide) (by decide)) q8a q8c (g := (mkF m 88 #[.val (.int p1), .val (.long q2), .second, .val (.int p3), .val (.int ((p1 &&& (2147483647 : Int32)) % (3 : Int32))), .val (.ref w4), .val (.long (q2 &&& (9223372036854775807 : Int64))), .second, .val (.ref b6), .val (.int (1 : Int32))] [(.ref b6)])) rfl (by rw [hml]; rfl) (Steps.refl _) (argsL := []) (rest := []) (lenOf pd_0_3 rfl) rfl (by show 2 * 0 + _ ≤ _; exact Nat.le_of_eq rfl) (hb hby at_88) (fun _ _ => ⟨rfl, rfl, (by decide : 3 + 0 ≤ _), (by decide : 26 + 0 ≤ _)⟩)
  dsimp only [Pt.U, Pt.locs, Pt.cells, Pt.slots] at X8 l8 y8 z8 st8 hQ8
  subst l8 y8 z8
  obtain ⟨rfl, N8q, eq8⟩ := hQ8
  have N8 := Fr.app N7 N8q
  obtain ⟨fs, hr, hrun, hended, hRW⟩ := X8.leaveW Sn7 (Nat.le_of_eq (congrArg (fun hh : Heap => hh.size) eq8.symm)) (v := some (.int (1 : Int32))) (fun h => by rw [Bd.returns] at h; cases h)
  refine ⟨_, _, pre0 _ ?_, hrun, hended, _, _, rfl, ?_, hRW.1, hRW.2.1, hRW.2.2.1, hRW.2.2.2.mono (by decide) (by decide)⟩
  · show Steps p.tables e below (s₁.setTop (mkF m 0 #[.val (.int p1), .val (.long q2), .second, .val (.int p3), .unset, .unset, .unset, .unset, .unset, .unset] [])) _
    refine XS.iloadN X0.here hx rfl (hb hby at_0) rfl ?_
    show Steps p.tables e below (s₁.setTop (mkF m 1 #[.val (.int p1), .val (.long q2), .second, .val (.int p3), .unset, .unset, .unset, .unset, .unset, .unset] [(.int p1)])) _
    refine ldcI X0 hx hown_0 (mvT hZ_0 (hw _ (List.mem_of_getElem? (i := 0) rfl))) rfl (hb hby at_1) ?_
    show Steps p.tables e below (s₁.setTop (mkF m 3 #[.val (.int p1), .val (.long q2), .second, .val (.int p3), .unset, .unset, .unset, .unset, .unset, .unset] [(.int (2147483647 : Int32)), (.int p1)])) _
    refine XS.iand X0.here hx rfl (hb hby at_3) rfl ?_
    show Steps p.tables e below (s₁.setTop (mkF m 4 #[.val (.int p1), .val (.long q2), .second, .val (.int p3), .unset, .unset, .unset, .unset, .unset, .unset] [(.int (p1 &&& (2147483647 : Int32)))])) _
    refine XS.iconst X0.here hx rfl (hb hby at_4) ?_
    show Steps p.tables e below (s₁.setTop (mkF m 5 #[.val (.int p1), .val (.long q2), .second, .val (.int p3), .unset, .unset, .unset, .unset, .unset, .unset] [(.int (3 : Int32)), (.int (p1 &&& (2147483647 : Int32)))])) _
    refine iremM X0 hx rfl (hb hby at_5) rfl (by decide) ?_
    show Steps p.tables e below (s₁.setTop (mkF m 6 #[.val (.int p1), .val (.long q2), .second, .val (.int p3), .unset, .unset, .unset, .unset, .unset, .unset] [(.int ((p1 &&& (2147483647 : Int32)) % (3 : Int32)))])) _
    refine XS.istore X0.here hx rfl (hb hby at_6) rfl (l' := #[.val (.int p1), .val (.long q2), .second, .val (.int p3), .val (.int ((p1 &&& (2147483647 : Int32)) % (3 : Int32))), .unset, .unset, .unset, .unset, .unset]) rfl ?_
    show Steps p.tables e below (s₁.setTop (mkF m 8 #[.val (.int p1), .val (.long q2), .second, .val (.int p3), .val (.int ((p1 &&& (2147483647 : Int32)) % (3 : Int32))), .unset, .unset, .unset, .unset, .unset] [])) _
    refine XS.iload X0.here hx rfl (hb hby at_8) rfl ?_
    show Steps p.tables e below (s₁.setTop (mkF m 10 #[.val (.int p1), .val (.long q2), .second, .val (.int p3), .val (.int ((p1 &&& (2147483647 : Int32)) % (3 : Int32))), .unset, .unset, .unset, .unset, .unset] [(.int ((p1 &&& (2147483647 : Int32)) % (3 : Int32)))])) _
    refine XS.ifNo X0.here hx rfl (hb hby at_10) rfl ((if0 _ _).trans (teq hc10).2) ?_
    show Steps p.tables e below (s₁.setTop (mkF m 13 #[.val (.int p1), .val (.long q2), .second, .val (.int p3), .val (.int ((p1 &&& (2147483647 : Int32)) % (3 : Int32))), .unset, .unset, .unset, .unset, .unset] [])) _
    refine st5 _ ?_
    show Steps p.tables e below (T5.setTop (mkF m 16 #[.val (.int p1), .val (.long q2), .second, .val (.int p3), .val (.int ((p1 &&& (2147483647 : Int32)) % (3 : Int32))), .unset, .unset, .unset, .unset, .unset] [(.ref w4)])) _
    refine XS.astore X5.here hx rfl (hb hby at_16) rfl rfl (l' := #[.val (.int p1), .val (.long q2), .second, .val (.int p3), .val (.int ((p1 &&& (2147483647 : Int32)) % (3 : Int32))), .val (.ref w4), .unset, .unset, .unset, .unset]) rfl ?_
    show Steps p.tables e below (T5.setTop (mkF m 18 #[.val (.int p1), .val (.long q2), .second, .val (.int p3), .val (.int ((p1 &&& (2147483647 : Int32)) % (3 : Int32))), .val (.ref w4), .unset, .unset, .unset, .unset] [])) _
    refine XS.goto X5.here hx rfl (pc0 := 18) (pc' := 40) rfl (hb hby at_18) (by decide) (by decide) ?_
    show Steps p.tables e below (T5.setTop (mkF m 40 #[.val (.int p1), .val (.long q2), .second, .val (.int p3), .val (.int ((p1 &&& (2147483647 : Int32)) % (3 : Int32))), .val (.ref w4), .unset, .unset, .unset, .unset] [])) _
    refine XS.iloadN X5.here hx rfl (hb hby at_40) rfl ?_
    show Steps p.tables e below (T5.setTop (mkF m 41 #[.val (.int p1), .val (.long q2), .second, .val (.int p3), .val (.int ((p1 &&& (2147483647 : Int32)) % (3 : Int32))), .val (.ref w4), .unset, .unset, .unset, .unset] [(.int p3)])) _
    refine XS.iconst X5.here hx rfl (hb hby at_41) ?_
    show Steps p.tables e below (T5.setTop (mkF m 42 #[.val (.int p1), .val (.long q2), .second, .val (.int p3), .val (.int ((p1 &&& (2147483647 : Int32)) % (3 : Int32))), .val (.ref w4), .unset, .unset, .unset, .unset] [(.int (1 : Int32)), (.int p3)])) _
    refine XS.iand X5.here hx rfl (hb hby at_42) rfl ?_
    show Steps p.tables e below (T5.setTop (mkF m 43 #[.val (.int p1), .val (.long q2), .second, .val (.int p3), .val (.int ((p1 &&& (2147483647 : Int32)) % (3 : Int32))), .val (.ref w4), .unset, .unset, .unset, .unset] [(.int (p3 &&& (1 : Int32)))])) _
    refine XS.ifYes X5.here hx rfl (pc0 := 43) (pc' := 52) rfl (hb hby at_43) rfl ((if0 _ _).trans (teq hc43).1) (by decide) (by decide) ?_
    show Steps p.tables e below (T5.setTop (mkF m 52 #[.val (.int p1), .val (.long q2), .second, .val (.int p3), .val (.int ((p1 &&& (2147483647 : Int32)) % (3 : Int32))), .val (.ref w4), .unset, .unset, .unset, .unset] [])) _
    refine XS.lloadN X5.here hx rfl (hb hby at_52) rfl ?_
    show Steps p.tables e below (T5.setTop (mkF m 53 #[.val (.int p1), .val (.long q2), .second, .val (.int p3), .val (.int ((p1 &&& (2147483647 : Int32)) % (3 : Int32))), .val (.ref w4), .unset, .unset, .unset, .unset] [(.long q2)])) _
    refine ldc2J X5 hx hown_0 (mvT hZ_0 (hw _ (List.mem_of_getElem? (i := 42) rfl))) rfl (hb hby at_53) ?_
    show Steps p.tables e below (T5.setTop (mkF m 56 #[.val (.int p1), .val (.long q2), .second, .val (.int p3), .val (.int ((p1 &&& (2147483647 : Int32)) % (3 : Int32))), .val (.ref w4), .unset, .unset, .unset, .unset] [(.long (9223372036854775807 : Int64)), (.long q2)])) _
    refine XS.land X5.here hx rfl (hb hby at_56) rfl ?_
    show Steps p.tables e below (T5.setTop (mkF m 57 #[.val (.int p1), .val (.long q2), .second, .val (.int p3), .val (.int ((p1 &&& (2147483647 : Int32)) % (3 : Int32))), .val (.ref w4), .unset, .unset, .unset, .unset] [(.long (q2 &&& (9223372036854775807 : Int64)))])) _
    refine XS.lstore X5.here hx rfl (hb hby at_57) rfl (l' := #[.val (.int p1), .val (.long q2), .second, .val (.int p3), .val (.int ((p1 &&& (2147483647 : Int32)) % (3 : Int32))), .val (.ref w4), .val (.long (q2 &&& (9223372036854775807 : Int64))), .second, .unset, .unset]) rfl ?_
    show Steps p.tables e below (T5.setTop (mkF m 59 #[.val (.int p1), .val (.long q2), .second, .val (.int p3), .val (.int ((p1 &&& (2147483647 : Int32)) % (3 : Int32))), .val (.ref w4), .val (.long (q2 &&& (9223372036854775807 : Int64))), .second, .unset, .unset] [])) _
    refine st6 _ ?_
    show Steps p.tables e below (T6.setTop (mkF m 62 #[.val (.int p1), .val (.long q2), .second, .val (.int p3), .val (.int ((p1 &&& (2147483647 : Int32)) % (3 : Int32))), .val (.ref w4), .val (.long (q2 &&& (9223372036854775807 : Int64))), .second, .unset, .unset] [(.ref b6)])) _
    refine XS.dup X6.here hx rfl (hb hby at_62) rfl rfl ?_
    show Steps p.tables e below (T6.setTop (mkF m 63 #[.val (.int p1), .val (.long q2), .second, .val (.int p3), .val (.int ((p1 &&& (2147483647 : Int32)) % (3 : Int32))), .val (.ref w4), .val (.long (q2 &&& (9223372036854775807 : Int64))), .second, .unset, .unset] [(.ref b6), (.ref b6)])) _
    refine XS.aload X6.here hx rfl (hb hby at_63) rfl rfl ?_
    show Steps p.tables e below (T6.setTop (mkF m 65 #[.val (.int p1), .val (.long q2), .second, .val (.int p3), .val (.int ((p1 &&& (2147483647 : Int32)) % (3 : Int32))), .val (.ref w4), .val (.long (q2 &&& (9223372036854775807 : Int64))), .second, .unset, .unset] [(.ref w4), (.ref b6), (.ref b6)])) _
    refine XS.lload X6.here hx rfl (hb hby at_65) rfl ?_
    show Steps p.tables e below (T6.setTop (mkF m 67 #[.val (.int p1), .val (.long q2), .second, .val (.int p3), .val (.int ((p1 &&& (2147483647 : Int32)) % (3 : Int32))), .val (.ref w4), .val (.long (q2 &&& (9223372036854775807 : Int64))), .second, .unset, .unset] [(.long (q2 &&& (9223372036854775807 : Int64))), (.ref w4), (.ref b6), (.ref b6)])) _
    refine st7.trans ?_
    show Steps p.tables e below (T7.setTop (mkF m 70 #[.val (.int p1), .val (.long q2), .second, .val (.int p3), .val (.int ((p1 &&& (2147483647 : Int32)) % (3 : Int32))), .val (.ref w4), .val (.long (q2 &&& (9223372036854775807 : Int64))), .second, .unset, .unset] [(.ref b6)])) _
    refine XS.astore X7.here hx rfl (hb hby at_70) rfl rfl (l' := #[.val (.int p1), .val (.long q2), .second, .val (.int p3), .val (.int ((p1 &&& (2147483647 : Int32)) % (3 : Int32))), .val (.ref w4), .val (.long (q2 &&& (9223372036854775807 : Int64))), .second, .val (.ref b6), .unset]) rfl ?_
    show Steps p.tables e below (T7.setTop (mkF m 72 #[.val (.int p1), .val (.long q2), .second, .val (.int p3), .val (.int ((p1 &&& (2147483647 : Int32)) % (3 : Int32))), .val (.ref w4), .val (.long (q2 &&& (9223372036854775807 : Int64))), .second, .val (.ref b6), .unset] [])) _
    refine XS.lload X7.here hx rfl (hb hby at_72) rfl ?_
    show Steps p.tables e below (T7.setTop (mkF m 74 #[.val (.int p1), .val (.long q2), .second, .val (.int p3), .val (.int ((p1 &&& (2147483647 : Int32)) % (3 : Int32))), .val (.ref w4), .val (.long (q2 &&& (9223372036854775807 : Int64))), .second, .val (.ref b6), .unset] [(.long (q2 &&& (9223372036854775807 : Int64)))])) _
    refine XS.lconst X7.here hx rfl (hb hby at_74) ?_
    show Steps p.tables e below (T7.setTop (mkF m 75 #[.val (.int p1), .val (.long q2), .second, .val (.int p3), .val (.int ((p1 &&& (2147483647 : Int32)) % (3 : Int32))), .val (.ref w4), .val (.long (q2 &&& (9223372036854775807 : Int64))), .second, .val (.ref b6), .unset] [(.long (0 : Int64)), (.long (q2 &&& (9223372036854775807 : Int64)))])) _
    refine XS.lcmp X7.here hx rfl (hb hby at_75) rfl ?_
    show Steps p.tables e below (T7.setTop (mkF m 76 #[.val (.int p1), .val (.long q2), .second, .val (.int p3), .val (.int ((p1 &&& (2147483647 : Int32)) % (3 : Int32))), .val (.ref w4), .val (.long (q2 &&& (9223372036854775807 : Int64))), .second, .val (.ref b6), .unset] [(.int (lcmpW (q2 &&& (9223372036854775807 : Int64)) (0 : Int64)))])) _
    refine XS.ifNo X7.here hx rfl (hb hby at_76) rfl ((if0 _ _).trans (teq hc76).2) ?_
    show Steps p.tables e below (T7.setTop (mkF m 79 #[.val (.int p1), .val (.long q2), .second, .val (.int p3), .val (.int ((p1 &&& (2147483647 : Int32)) % (3 : Int32))), .val (.ref w4), .val (.long (q2 &&& (9223372036854775807 : Int64))), .second, .val (.ref b6), .unset] [])) _
    refine XS.iconst X7.here hx rfl (hb hby at_79) ?_
    show Steps p.tables e below (T7.setTop (mkF m 80 #[.val (.int p1), .val (.long q2), .second, .val (.int p3), .val (.int ((p1 &&& (2147483647 : Int32)) % (3 : Int32))), .val (.ref w4), .val (.long (q2 &&& (9223372036854775807 : Int64))), .second, .val (.ref b6), .unset] [(.int (1 : Int32))])) _
    refine XS.goto X7.here hx rfl (pc0 := 80) (pc' := 84) rfl (hb hby at_80) (by decide) (by decide) ?_
    show Steps p.tables e below (T7.setTop (mkF m 84 #[.val (.int p1), .val (.long q2), .second, .val (.int p3), .val (.int ((p1 &&& (2147483647 : Int32)) % (3 : Int32))), .val (.ref w4), .val (.long (q2 &&& (9223372036854775807 : Int64))), .second, .val (.ref b6), .unset] [(.int (1 : Int32))])) _
    refine XS.istore X7.here hx rfl (hb hby at_84) rfl (l' := #[.val (.int p1), .val (.long q2), .second, .val (.int p3), .val (.int ((p1 &&& (2147483647 : Int32)) % (3 : Int32))), .val (.ref w4), .val (.long (q2 &&& (9223372036854775807 : Int64))), .second, .val (.ref b6), .val (.int (1 : Int32))]) rfl ?_
    show Steps p.tables e below (T7.setTop (mkF m 86 #[.val (.int p1), .val (.long q2), .second, .val (.int p3), .val (.int ((p1 &&& (2147483647 : Int32)) % (3 : Int32))), .val (.ref w4), .val (.long (q2 &&& (9223372036854775807 : Int64))), .second, .val (.ref b6), .val (.int (1 : Int32))] [])) _
    refine XS.aload X7.here hx rfl (hb hby at_86) rfl rfl ?_
    show Steps p.tables e below (T7.setTop (mkF m 88 #[.val (.int p1), .val (.long q2), .second, .val (.int p3), .val (.int ((p1 &&& (2147483647 : Int32)) % (3 : Int32))), .val (.ref w4), .val (.long (q2 &&& (9223372036854775807 : Int64))), .second, .val (.ref b6), .val (.int (1 : Int32))] [(.ref b6)])) _
    refine st8.trans ?_
    show Steps p.tables e below (T8.setTop (mkF m 91 #[.val (.int p1), .val (.long q2), .second, .val (.int p3), .val (.int ((p1 &&& (2147483647 : Int32)) % (3 : Int32))), .val (.ref w4), .val (.long (q2 &&& (9223372036854775807 : Int64))), .second, .val (.ref b6), .val (.int (1 : Int32))] [(.int (1 : Int32))])) _
    refine XS.iload X8.here hx rfl (hb hby at_91) rfl ?_
    show Steps p.tables e below (T8.setTop (mkF m 93 #[.val (.int p1), .val (.long q2), .second, .val (.int p3), .val (.int ((p1 &&& (2147483647 : Int32)) % (3 : Int32))), .val (.ref w4), .val (.long (q2 &&& (9223372036854775807 : Int64))), .second, .val (.ref b6), .val (.int (1 : Int32))] [(.int (1 : Int32)), (.int (1 : Int32))])) _
    refine XS.icmpNo X8.here hx rfl (hb hby at_93) rfl (teq (rfl : (1 : Int32) = (1 : Int32))).2 ?_
    show Steps p.tables e below (T8.setTop (mkF m 96 #[.val (.int p1), .val (.long q2), .second, .val (.int p3), .val (.int ((p1 &&& (2147483647 : Int32)) % (3 : Int32))), .val (.ref w4), .val (.long (q2 &&& (9223372036854775807 : Int64))), .second, .val (.ref b6), .val (.int (1 : Int32))] [])) _
    refine XS.iconst X8.here hx rfl (hb hby at_96) ?_
    show Steps p.tables e below (T8.setTop (mkF m 97 #[.val (.int p1), .val (.long q2), .second, .val (.int p3), .val (.int ((p1 &&& (2147483647 : Int32)) % (3 : Int32))), .val (.ref w4), .val (.long (q2 &&& (9223372036854775807 : Int64))), .second, .val (.ref b6), .val (.int (1 : Int32))] [(.int (1 : Int32))])) _
    refine XS.goto X8.here hx rfl (pc0 := 97) (pc' := 101) rfl (hb hby at_97) (by decide) (by decide) ?_
    show Steps p.tables e below (T8.setTop (mkF m 101 #[.val (.int p1), .val (.long q2), .second, .val (.int p3), .val (.int ((p1 &&& (2147483647 : Int32)) % (3 : Int32))), .val (.ref w4), .val (.long (q2 &&& (9223372036854775807 : Int64))), .second, .val (.ref b6), .val (.int (1 : Int32))] [(.int (1 : Int32))])) _
    exact retN X8 hx (t := .boolean) Bd.returns (by simp) (hb hby at_101) hr
  · show Q0 n0 _ T8.heap _
    rw [eq8]
    exact ⟨rfl, N8⟩

set_option maxRecDepth 65536 in
set_option maxHeartbeats 40000000 in
theorem rm0_02 (l : Launch) (Z : State) (a0 : Array Value) (hw : ∀ d ∈ tables_1, d.before a0 Z = true) (ws : List Jvm.Cond) (p1 : Int32) (q2 : Int64) (p3 : Int32) (w4 : Addr) (h0 : Heap) (n0 : Nat) (Z0 : n0 ≤ h0.size) (S_DATABASE : Sta Z h0 "com/example/albizia/albizia/limits/LimitLevel" "DATABASE" "Lcom/example/albizia/albizia/limits/LimitLevel;" (.ref w4)) (hc10 : ((p1 &&& (2147483647 : Int32)) % (3 : Int32)) = (0 : Int32)) (hc43 : (p3 &&& (1 : Int32)) = (0 : Int32)) (hc76 : ¬ ((lcmpW (q2 &&& (9223372036854775807 : Int64)) (0 : Int64)) = (0 : Int32))) :
    MetFree l x (head1 (Jvm.Cond.code x code maxLocals ret :: ws) room_1) (fun a U => a = #[(.int p1), (.long q2), (.int p3)] ∧ Z.Warmed39 U.vm ∧ U.heap = h0) (fun _ _ _ _ _ => True) (fun _ U o U' => ∃ v L, o = .returned v ∧ Q0 n0 v U'.heap L ∧ ReturnedEndW U o U' L room_1.cells room_1.slots) := by
  refine MetFree.of_bodySF (plainFor_of_name pn_0) hisR ?_
  intro p e s m args below meth c s₁ Bd hml0 hP hK
  obtain ⟨rfl, hZ, hh⟩ := hP
  have hx := Bd.exec
  have hby := Bd.bytes
  have hml : c.maxLocals = 10 := hml0
  have hown : s.vm.findClass "com/example/albizia/albizia/limits/LimitIsNonePinLaw" = some m.cls := findClass_of_methodNamed Bd.named
  have hnm := (name_of_methodNamed Bd.named Bd.method).1
  have X0 : Stand p l e room_1 s m #[(.int p1), (.long q2), (.int p3)] below meth c s₁ [] 0 0 := Stand.of_body Bd
  have e0 : s₁.heap = h0 := by rw [← hh, Bd.state]; rfl
  have N0 := Fr.nil n0
  have pre0 : ∀ t, Steps p.tables e below (s₁.setTop (mkF m 0 #[.val (.int p1), .val (.long q2), .second, .val (.int p3), .unset, .unset, .unset, .unset, .unset, .unset] [])) t → Steps p.tables e below (s₁.setTop (entryFrame m #[(.int p1), (.long q2), (.int p3)] maxLocals)) t := fun t k => castTop (ef_0 m p1 q2 p3) k
  have hZ_0 := hZ
  have hown_0 := hown
  obtain ⟨T5, X5, e5, st5⟩ := getS2 X0 hx hZ hown (host := "") (Or.inl (hw _ (List.mem_of_getElem? (i := 1) rfl))) Via.refl e0 S_DATABASE (g := (mkF m 13 #[.val (.int p1), .val (.long q2), .second, .val (.int p3), .val (.int ((p1 &&& (2147483647 : Int32)) % (3 : Int32))), .unset, .unset, .unset, .unset, .unset] [])) rfl (hb hby at_13)
  obtain ⟨T6, h6, X6, e6, E6, A6, D6, -, st6⟩ := newO X5 hx hZ hown (hw _ (List.mem_of_getElem? (i := 4) rfl)) (hw _ (List.mem_of_getElem? (i := 5) rfl)) (hw _ (List.mem_of_getElem? (i := 6) rfl)) e5 (g := (mkF m 59 #[.val (.int p1), .val (.long q2), .second, .val (.int p3), .val (.int ((p1 &&& (2147483647 : Int32)) % (3 : Int32))), .val (.ref w4), .val (.long (q2 &&& (9223372036854775807 : Int64))), .second, .unset, .unset] [])) rfl (hb hby at_59) (by decide) (by decide)
  obtain ⟨b6, g6⟩ : ∃ z, z = h0.size := ⟨_, rfl⟩      -- the fresh object's address
  rw [← g6] at A6 D6 st6      -- A6 : Exa Z h6 b6 "com/example/albizia/albizia/limits/Limit"; E6 : Ext h0 h6 (carries every older fact: .ext E6)
  have F_level_b6 : Fld Z h6 b6 "com/example/albizia/albizia/limits/Limit" "level" "Lcom/example/albizia/albizia/limits/LimitLevel;" .null := D6 (Or.inr (hw _ (List.mem_of_getElem? (i := 34) rfl))) (ty := (.object "com/example/albizia/albizia/limits/LimitLevel")) (by decide)
  have F_millis_b6 : Fld Z h6 b6 "com/example/albizia/albizia/limits/Limit" "millis" "J" (.long (0 : Int64)) := D6 (Or.inr (hw _ (List.mem_of_getElem? (i := 36) rfl))) (ty := .long) (by decide)
  have E_b6 := A6
  have g_b6 : n0 ≤ b6 := Nat.le_trans Z0 (Nat.le_of_eq g6.symm)
  have sz_b6 : h0.size ≤ b6 := (Nat.le_trans (Keep.refl h0 []).1 (Nat.le_of_eq g6.symm))
  have K6 : Keep h0 h6 [] := (Keep.refl h0 []).ext E6
  -- pc 67: the constructor of com/example/albizia/albizia/limits/Limit by its contract rm1
  obtain ⟨_, _, ⟨T7, L7, k7, n7⟩, -, X7, Sn7, Gn7, ⟨Lc7, hQ7, l7, y7, z7⟩, st7⟩ := X6.specialBackS hx (y := (⟨"com/example/albizia/albizia/limits/Limit", "<init>", "(Lcom/example/albizia/albizia/limits/LimitLevel;J)V"⟩ : MethodName)) rfl hown (mvT hZ (hw _ (List.mem_of_getElem? (i := 7) rfl))) (mvT hZ (hw _ (List.mem_of_getElem? (i := 8) rfl))) (mvT hZ (hw _ (List.mem_of_getElem? (i := 9) rfl))) (by decide) (backOfS (W := 1) (rm1 l Z a0 hw [] b6 w4 (q2 &&& (9223372036854775807 : Int64)) .null (.long (0 : Int64)) h6 n0 (Nat.le_trans Z0 E6.1) E_b6 F_level_b6 g_b6 F_millis_b6 (own_nn q2)) hZ (hw _ (List.mem_of_getElem? (i := 9) rfl)) (hw _ (List.mem_of_getElem? (i := 6) rfl)) (by decide) (by decide)) (g := (mkF m 67 #[.val (.int p1), .val (.long q2), .second, .val (.int p3), .val (.int ((p1 &&& (2147483647 : Int32)) % (3 : Int32))), .val (.ref w4), .val (.long (q2 &&& (9223372036854775807 : Int64))), .second, .unset, .unset] [(.long (q2 &&& (9223372036854775807 : Int64))), (.ref w4), (.ref b6), (.ref b6)])) rfl (by rw [hml]; rfl) (Steps.refl _) (a := b6) (argsL := [(.ref w4), (.long (q2 &&& (9223372036854775807 : Int64)))]) (rest := [(.ref b6)]) (lenOf pd_0_0 rfl) rfl (by show 2 * 0 + _ ≤ _; exact Nat.le_of_eq rfl) (hb hby at_67) (fun _ _ => ⟨rfl, e6, (by decide : 1 + 2 ≤ _), (by decide : 2 + 24 ≤ _)⟩)
  dsimp only [Pt.U, Pt.locs, Pt.cells, Pt.slots] at X7 l7 y7 z7 st7 hQ7
  subst l7 y7 z7
  obtain ⟨rfl, N7q, K1q, E1q, F1q⟩ := hQ7
  have N7 := Fr.app N0 N7q
  have hZ : Z.Warmed39 (s.setVm T7.vm).vm := State.Warmed39.trans (t := s) hZ Sn7.1
  have hown : (s.setVm T7.vm).vm.findClass "com/example/albizia/albizia/limits/LimitIsNonePinLaw" = some m.cls := by rw [show (s.setVm T7.vm).vm = T7.vm from rfl, Sn7.1.alike.findClass]; exact hown
  -- pc 88: com/example/albizia/albizia/limits/Limit.isNone by the contract of the body that the receiver's class selects, rm6
  obtain ⟨cq8, kq8, q8a, q8b, q8c⟩ := isOf hZ rfl E1q
  obtain ⟨_, _, ⟨T8, L8, k8, n8⟩, -, X8, ⟨Lc8, hQ8, l8, y8, z8⟩, st8⟩ := X7.virtualBack hx (y := (⟨"com/example/albizia/albizia/limits/Limit", "isNone", "()Z"⟩ : MethodName)) (z := (⟨"com/example/albizia/albizia/limits/Limit", "isNone", "()Z"⟩ : MethodName)) hown (mvT hZ (hw _ (List.mem_of_getElem? (i := 37) rfl))) (mvT hZ (hw _ (List.mem_of_getElem? (i := 38) rfl))) (notFace_of_selects (args := #[]) (mvT hZ (hw _ (List.mem_of_getElem? (i := 40) rfl)))) (mvT hZ (hw _ (List.mem_of_getElem? (i := 40) rfl))) (mvT hZ (hw _ (List.mem_of_getElem? (i := 39) rfl))) (by decide) (backOf (W := 0) (rm6b l Z a0 hw [] b6 (q2 &&& (9223372036854775807 : Int64)) T7.heap n0 (Nat.le_trans Z0 (Nat.le_trans E6.1 K1q.1)) F1q hc76) hZ (hw _ (List.mem_of_getElem? (i := 41) rfl)) (hw _ (List.mem_of_getElem? (i := 6) rfl)) (by decide) (by decide)) q8a q8c (g := (mkF m 88 #[.val (.int p1), .val (.long q2), .second, .val (.int p3), .val (.int ((p1 &&& (2147483647 : Int32)) % (3 : Int32))), .val (.ref w4), .val (.long (q2 &&& (9223372036854775807 : Int64))), .second, .val (.ref b6), .val (.int (0 : Int32))] [(.ref b6)])) rfl (by rw [hml]; rfl) (Steps.refl _) (argsL := []) (rest := []) (lenOf pd_0_3 rfl) rfl (by show 2 * 0 + _ ≤ _; exact Nat.le_of_eq rfl) (hb hby at_88) (fun _ _ => ⟨rfl, rfl, (by decide : 3 + 0 ≤ _), (by decide : 26 + 0 ≤ _)⟩)
  dsimp only [Pt.U, Pt.locs, Pt.cells, Pt.slots] at X8 l8 y8 z8 st8 hQ8
  subst l8 y8 z8
  obtain ⟨rfl, N8q, eq8⟩ := hQ8
  have N8 := Fr.app N7 N8q
  obtain ⟨fs, hr, hrun, hended, hRW⟩ := X8.leaveW Sn7 (Nat.le_of_eq (congrArg (fun hh : Heap => hh.size) eq8.symm)) (v := some (.int (1 : Int32))) (fun h => by rw [Bd.returns] at h; cases h)
  refine ⟨_, _, pre0 _ ?_, hrun, hended, _, _, rfl, ?_, hRW.1, hRW.2.1, hRW.2.2.1, hRW.2.2.2.mono (by decide) (by decide)⟩
  · show Steps p.tables e below (s₁.setTop (mkF m 0 #[.val (.int p1), .val (.long q2), .second, .val (.int p3), .unset, .unset, .unset, .unset, .unset, .unset] [])) _
    refine XS.iloadN X0.here hx rfl (hb hby at_0) rfl ?_
    show Steps p.tables e below (s₁.setTop (mkF m 1 #[.val (.int p1), .val (.long q2), .second, .val (.int p3), .unset, .unset, .unset, .unset, .unset, .unset] [(.int p1)])) _
    refine ldcI X0 hx hown_0 (mvT hZ_0 (hw _ (List.mem_of_getElem? (i := 0) rfl))) rfl (hb hby at_1) ?_
    show Steps p.tables e below (s₁.setTop (mkF m 3 #[.val (.int p1), .val (.long q2), .second, .val (.int p3), .unset, .unset, .unset, .unset, .unset, .unset] [(.int (2147483647 : Int32)), (.int p1)])) _
    refine XS.iand X0.here hx rfl (hb hby at_3) rfl ?_
    show Steps p.tables e below (s₁.setTop (mkF m 4 #[.val (.int p1), .val (.long q2), .second, .val (.int p3), .unset, .unset, .unset, .unset, .unset, .unset] [(.int (p1 &&& (2147483647 : Int32)))])) _
    refine XS.iconst X0.here hx rfl (hb hby at_4) ?_
    show Steps p.tables e below (s₁.setTop (mkF m 5 #[.val (.int p1), .val (.long q2), .second, .val (.int p3), .unset, .unset, .unset, .unset, .unset, .unset] [(.int (3 : Int32)), (.int (p1 &&& (2147483647 : Int32)))])) _
    refine iremM X0 hx rfl (hb hby at_5) rfl (by decide) ?_
    show Steps p.tables e below (s₁.setTop (mkF m 6 #[.val (.int p1), .val (.long q2), .second, .val (.int p3), .unset, .unset, .unset, .unset, .unset, .unset] [(.int ((p1 &&& (2147483647 : Int32)) % (3 : Int32)))])) _
    refine XS.istore X0.here hx rfl (hb hby at_6) rfl (l' := #[.val (.int p1), .val (.long q2), .second, .val (.int p3), .val (.int ((p1 &&& (2147483647 : Int32)) % (3 : Int32))), .unset, .unset, .unset, .unset, .unset]) rfl ?_
    show Steps p.tables e below (s₁.setTop (mkF m 8 #[.val (.int p1), .val (.long q2), .second, .val (.int p3), .val (.int ((p1 &&& (2147483647 : Int32)) % (3 : Int32))), .unset, .unset, .unset, .unset, .unset] [])) _
    refine XS.iload X0.here hx rfl (hb hby at_8) rfl ?_
    show Steps p.tables e below (s₁.setTop (mkF m 10 #[.val (.int p1), .val (.long q2), .second, .val (.int p3), .val (.int ((p1 &&& (2147483647 : Int32)) % (3 : Int32))), .unset, .unset, .unset, .unset, .unset] [(.int ((p1 &&& (2147483647 : Int32)) % (3 : Int32)))])) _
    refine XS.ifNo X0.here hx rfl (hb hby at_10) rfl ((if0 _ _).trans (teq hc10).2) ?_
    show Steps p.tables e below (s₁.setTop (mkF m 13 #[.val (.int p1), .val (.long q2), .second, .val (.int p3), .val (.int ((p1 &&& (2147483647 : Int32)) % (3 : Int32))), .unset, .unset, .unset, .unset, .unset] [])) _
    refine st5 _ ?_
    show Steps p.tables e below (T5.setTop (mkF m 16 #[.val (.int p1), .val (.long q2), .second, .val (.int p3), .val (.int ((p1 &&& (2147483647 : Int32)) % (3 : Int32))), .unset, .unset, .unset, .unset, .unset] [(.ref w4)])) _
    refine XS.astore X5.here hx rfl (hb hby at_16) rfl rfl (l' := #[.val (.int p1), .val (.long q2), .second, .val (.int p3), .val (.int ((p1 &&& (2147483647 : Int32)) % (3 : Int32))), .val (.ref w4), .unset, .unset, .unset, .unset]) rfl ?_
    show Steps p.tables e below (T5.setTop (mkF m 18 #[.val (.int p1), .val (.long q2), .second, .val (.int p3), .val (.int ((p1 &&& (2147483647 : Int32)) % (3 : Int32))), .val (.ref w4), .unset, .unset, .unset, .unset] [])) _
    refine XS.goto X5.here hx rfl (pc0 := 18) (pc' := 40) rfl (hb hby at_18) (by decide) (by decide) ?_
    show Steps p.tables e below (T5.setTop (mkF m 40 #[.val (.int p1), .val (.long q2), .second, .val (.int p3), .val (.int ((p1 &&& (2147483647 : Int32)) % (3 : Int32))), .val (.ref w4), .unset, .unset, .unset, .unset] [])) _
    refine XS.iloadN X5.here hx rfl (hb hby at_40) rfl ?_
    show Steps p.tables e below (T5.setTop (mkF m 41 #[.val (.int p1), .val (.long q2), .second, .val (.int p3), .val (.int ((p1 &&& (2147483647 : Int32)) % (3 : Int32))), .val (.ref w4), .unset, .unset, .unset, .unset] [(.int p3)])) _
    refine XS.iconst X5.here hx rfl (hb hby at_41) ?_
    show Steps p.tables e below (T5.setTop (mkF m 42 #[.val (.int p1), .val (.long q2), .second, .val (.int p3), .val (.int ((p1 &&& (2147483647 : Int32)) % (3 : Int32))), .val (.ref w4), .unset, .unset, .unset, .unset] [(.int (1 : Int32)), (.int p3)])) _
    refine XS.iand X5.here hx rfl (hb hby at_42) rfl ?_
    show Steps p.tables e below (T5.setTop (mkF m 43 #[.val (.int p1), .val (.long q2), .second, .val (.int p3), .val (.int ((p1 &&& (2147483647 : Int32)) % (3 : Int32))), .val (.ref w4), .unset, .unset, .unset, .unset] [(.int (p3 &&& (1 : Int32)))])) _
    refine XS.ifYes X5.here hx rfl (pc0 := 43) (pc' := 52) rfl (hb hby at_43) rfl ((if0 _ _).trans (teq hc43).1) (by decide) (by decide) ?_
    show Steps p.tables e below (T5.setTop (mkF m 52 #[.val (.int p1), .val (.long q2), .second, .val (.int p3), .val (.int ((p1 &&& (2147483647 : Int32)) % (3 : Int32))), .val (.ref w4), .unset, .unset, .unset, .unset] [])) _
    refine XS.lloadN X5.here hx rfl (hb hby at_52) rfl ?_
    show Steps p.tables e below (T5.setTop (mkF m 53 #[.val (.int p1), .val (.long q2), .second, .val (.int p3), .val (.int ((p1 &&& (2147483647 : Int32)) % (3 : Int32))), .val (.ref w4), .unset, .unset, .unset, .unset] [(.long q2)])) _
    refine ldc2J X5 hx hown_0 (mvT hZ_0 (hw _ (List.mem_of_getElem? (i := 42) rfl))) rfl (hb hby at_53) ?_
    show Steps p.tables e below (T5.setTop (mkF m 56 #[.val (.int p1), .val (.long q2), .second, .val (.int p3), .val (.int ((p1 &&& (2147483647 : Int32)) % (3 : Int32))), .val (.ref w4), .unset, .unset, .unset, .unset] [(.long (9223372036854775807 : Int64)), (.long q2)])) _
    refine XS.land X5.here hx rfl (hb hby at_56) rfl ?_
    show Steps p.tables e below (T5.setTop (mkF m 57 #[.val (.int p1), .val (.long q2), .second, .val (.int p3), .val (.int ((p1 &&& (2147483647 : Int32)) % (3 : Int32))), .val (.ref w4), .unset, .unset, .unset, .unset] [(.long (q2 &&& (9223372036854775807 : Int64)))])) _
    refine XS.lstore X5.here hx rfl (hb hby at_57) rfl (l' := #[.val (.int p1), .val (.long q2), .second, .val (.int p3), .val (.int ((p1 &&& (2147483647 : Int32)) % (3 : Int32))), .val (.ref w4), .val (.long (q2 &&& (9223372036854775807 : Int64))), .second, .unset, .unset]) rfl ?_
    show Steps p.tables e below (T5.setTop (mkF m 59 #[.val (.int p1), .val (.long q2), .second, .val (.int p3), .val (.int ((p1 &&& (2147483647 : Int32)) % (3 : Int32))), .val (.ref w4), .val (.long (q2 &&& (9223372036854775807 : Int64))), .second, .unset, .unset] [])) _
    refine st6 _ ?_
    show Steps p.tables e below (T6.setTop (mkF m 62 #[.val (.int p1), .val (.long q2), .second, .val (.int p3), .val (.int ((p1 &&& (2147483647 : Int32)) % (3 : Int32))), .val (.ref w4), .val (.long (q2 &&& (9223372036854775807 : Int64))), .second, .unset, .unset] [(.ref b6)])) _
    refine XS.dup X6.here hx rfl (hb hby at_62) rfl rfl ?_
    show Steps p.tables e below (T6.setTop (mkF m 63 #[.val (.int p1), .val (.long q2), .second, .val (.int p3), .val (.int ((p1 &&& (2147483647 : Int32)) % (3 : Int32))), .val (.ref w4), .val (.long (q2 &&& (9223372036854775807 : Int64))), .second, .unset, .unset] [(.ref b6), (.ref b6)])) _
    refine XS.aload X6.here hx rfl (hb hby at_63) rfl rfl ?_
    show Steps p.tables e below (T6.setTop (mkF m 65 #[.val (.int p1), .val (.long q2), .second, .val (.int p3), .val (.int ((p1 &&& (2147483647 : Int32)) % (3 : Int32))), .val (.ref w4), .val (.long (q2 &&& (9223372036854775807 : Int64))), .second, .unset, .unset] [(.ref w4), (.ref b6), (.ref b6)])) _
    refine XS.lload X6.here hx rfl (hb hby at_65) rfl ?_
    show Steps p.tables e below (T6.setTop (mkF m 67 #[.val (.int p1), .val (.long q2), .second, .val (.int p3), .val (.int ((p1 &&& (2147483647 : Int32)) % (3 : Int32))), .val (.ref w4), .val (.long (q2 &&& (9223372036854775807 : Int64))), .second, .unset, .unset] [(.long (q2 &&& (9223372036854775807 : Int64))), (.ref w4), (.ref b6), (.ref b6)])) _
    refine st7.trans ?_
    show Steps p.tables e below (T7.setTop (mkF m 70 #[.val (.int p1), .val (.long q2), .second, .val (.int p3), .val (.int ((p1 &&& (2147483647 : Int32)) % (3 : Int32))), .val (.ref w4), .val (.long (q2 &&& (9223372036854775807 : Int64))), .second, .unset, .unset] [(.ref b6)])) _
    refine XS.astore X7.here hx rfl (hb hby at_70) rfl rfl (l' := #[.val (.int p1), .val (.long q2), .second, .val (.int p3), .val (.int ((p1 &&& (2147483647 : Int32)) % (3 : Int32))), .val (.ref w4), .val (.long (q2 &&& (9223372036854775807 : Int64))), .second, .val (.ref b6), .unset]) rfl ?_
    show Steps p.tables e below (T7.setTop (mkF m 72 #[.val (.int p1), .val (.long q2), .second, .val (.int p3), .val (.int ((p1 &&& (2147483647 : Int32)) % (3 : Int32))), .val (.ref w4), .val (.long (q2 &&& (9223372036854775807 : Int64))), .second, .val (.ref b6), .unset] [])) _
    refine XS.lload X7.here hx rfl (hb hby at_72) rfl ?_
    show Steps p.tables e below (T7.setTop (mkF m 74 #[.val (.int p1), .val (.long q2), .second, .val (.int p3), .val (.int ((p1 &&& (2147483647 : Int32)) % (3 : Int32))), .val (.ref w4), .val (.long (q2 &&& (9223372036854775807 : Int64))), .second, .val (.ref b6), .unset] [(.long (q2 &&& (9223372036854775807 : Int64)))])) _
    refine XS.lconst X7.here hx rfl (hb hby at_74) ?_
    show Steps p.tables e below (T7.setTop (mkF m 75 #[.val (.int p1), .val (.long q2), .second, .val (.int p3), .val (.int ((p1 &&& (2147483647 : Int32)) % (3 : Int32))), .val (.ref w4), .val (.long (q2 &&& (9223372036854775807 : Int64))), .second, .val (.ref b6), .unset] [(.long (0 : Int64)), (.long (q2 &&& (9223372036854775807 : Int64)))])) _
    refine XS.lcmp X7.here hx rfl (hb hby at_75) rfl ?_
    show Steps p.tables e below (T7.setTop (mkF m 76 #[.val (.int p1), .val (.long q2), .second, .val (.int p3), .val (.int ((p1 &&& (2147483647 : Int32)) % (3 : Int32))), .val (.ref w4), .val (.long (q2 &&& (9223372036854775807 : Int64))), .second, .val (.ref b6), .unset] [(.int (lcmpW (q2 &&& (9223372036854775807 : Int64)) (0 : Int64)))])) _
    refine XS.ifYes X7.here hx rfl (pc0 := 76) (pc' := 83) rfl (hb hby at_76) rfl ((if0 _ _).trans (feq hc76).2) (by decide) (by decide) ?_
    show Steps p.tables e below (T7.setTop (mkF m 83 #[.val (.int p1), .val (.long q2), .second, .val (.int p3), .val (.int ((p1 &&& (2147483647 : Int32)) % (3 : Int32))), .val (.ref w4), .val (.long (q2 &&& (9223372036854775807 : Int64))), .second, .val (.ref b6), .unset] [])) _
    refine XS.iconst X7.here hx rfl (hb hby at_83) ?_
    show Steps p.tables e below (T7.setTop (mkF m 84 #[.val (.int p1), .val (.long q2), .second, .val (.int p3), .val (.int ((p1 &&& (2147483647 : Int32)) % (3 : Int32))), .val (.ref w4), .val (.long (q2 &&& (9223372036854775807 : Int64))), .second, .val (.ref b6), .unset] [(.int (0 : Int32))])) _
    refine XS.istore X7.here hx rfl (hb hby at_84) rfl (l' := #[.val (.int p1), .val (.long q2), .second, .val (.int p3), .val (.int ((p1 &&& (2147483647 : Int32)) % (3 : Int32))), .val (.ref w4), .val (.long (q2 &&& (9223372036854775807 : Int64))), .second, .val (.ref b6), .val (.int (0 : Int32))]) rfl ?_
    show Steps p.tables e below (T7.setTop (mkF m 86 #[.val (.int p1), .val (.long q2), .second, .val (.int p3), .val (.int ((p1 &&& (2147483647 : Int32)) % (3 : Int32))), .val (.ref w4), .val (.long (q2 &&& (9223372036854775807 : Int64))), .second, .val (.ref b6), .val (.int (0 : Int32))] [])) _
    refine XS.aload X7.here hx rfl (hb hby at_86) rfl rfl ?_
    show Steps p.tables e below (T7.setTop (mkF m 88 #[.val (.int p1), .val (.long q2), .second, .val (.int p3), .val (.int ((p1 &&& (2147483647 : Int32)) % (3 : Int32))), .val (.ref w4), .val (.long (q2 &&& (9223372036854775807 : Int64))), .second, .val (.ref b6), .val (.int (0 : Int32))] [(.ref b6)])) _
    refine st8.trans ?_
    show Steps p.tables e below (T8.setTop (mkF m 91 #[.val (.int p1), .val (.long q2), .second, .val (.int p3), .val (.int ((p1 &&& (2147483647 : Int32)) % (3 : Int32))), .val (.ref w4), .val (.long (q2 &&& (9223372036854775807 : Int64))), .second, .val (.ref b6), .val (.int (0 : Int32))] [(.int (0 : Int32))])) _
    refine XS.iload X8.here hx rfl (hb hby at_91) rfl ?_
    show Steps p.tables e below (T8.setTop (mkF m 93 #[.val (.int p1), .val (.long q2), .second, .val (.int p3), .val (.int ((p1 &&& (2147483647 : Int32)) % (3 : Int32))), .val (.ref w4), .val (.long (q2 &&& (9223372036854775807 : Int64))), .second, .val (.ref b6), .val (.int (0 : Int32))] [(.int (0 : Int32)), (.int (0 : Int32))])) _
    refine XS.icmpNo X8.here hx rfl (hb hby at_93) rfl (teq (rfl : (0 : Int32) = (0 : Int32))).2 ?_
    show Steps p.tables e below (T8.setTop (mkF m 96 #[.val (.int p1), .val (.long q2), .second, .val (.int p3), .val (.int ((p1 &&& (2147483647 : Int32)) % (3 : Int32))), .val (.ref w4), .val (.long (q2 &&& (9223372036854775807 : Int64))), .second, .val (.ref b6), .val (.int (0 : Int32))] [])) _
    refine XS.iconst X8.here hx rfl (hb hby at_96) ?_
    show Steps p.tables e below (T8.setTop (mkF m 97 #[.val (.int p1), .val (.long q2), .second, .val (.int p3), .val (.int ((p1 &&& (2147483647 : Int32)) % (3 : Int32))), .val (.ref w4), .val (.long (q2 &&& (9223372036854775807 : Int64))), .second, .val (.ref b6), .val (.int (0 : Int32))] [(.int (1 : Int32))])) _
    refine XS.goto X8.here hx rfl (pc0 := 97) (pc' := 101) rfl (hb hby at_97) (by decide) (by decide) ?_
    show Steps p.tables e below (T8.setTop (mkF m 101 #[.val (.int p1), .val (.long q2), .second, .val (.int p3), .val (.int ((p1 &&& (2147483647 : Int32)) % (3 : Int32))), .val (.ref w4), .val (.long (q2 &&& (9223372036854775807 : Int64))), .second, .val (.ref b6), .val (.int (0 : Int32))] [(.int (1 : Int32))])) _
    exact retN X8 hx (t := .boolean) Bd.returns (by simp) (hb hby at_101) hr
  · show Q0 n0 _ T8.heap _
    rw [eq8]
    exact ⟨rfl, N8⟩

set_option maxRecDepth 65536 in
set_option maxHeartbeats 40000000 in
theorem rm0_10 (l : Launch) (Z : State) (a0 : Array Value) (hw : ∀ d ∈ tables_1, d.before a0 Z = true) (ws : List Jvm.Cond) (p1 : Int32) (q2 : Int64) (p3 : Int32) (w4 : Addr) (h0 : Heap) (n0 : Nat) (Z0 : n0 ≤ h0.size) (S_SESSION : Sta Z h0 "com/example/albizia/albizia/limits/LimitLevel" "SESSION" "Lcom/example/albizia/albizia/limits/LimitLevel;" (.ref w4)) (hc10 : ¬ (((p1 &&& (2147483647 : Int32)) % (3 : Int32)) = (0 : Int32))) (hc24 : ((p1 &&& (2147483647 : Int32)) % (3 : Int32)) = (1 : Int32)) (hc43 : ¬ ((p3 &&& (1 : Int32)) = (0 : Int32))) :
    MetFree l x (head1 (Jvm.Cond.code x code maxLocals ret :: ws) room_1) (fun a U => a = #[(.int p1), (.long q2), (.int p3)] ∧ Z.Warmed39 U.vm ∧ U.heap = h0) (fun _ _ _ _ _ => True) (fun _ U o U' => ∃ v L, o = .returned v ∧ Q0 n0 v U'.heap L ∧ ReturnedEndW U o U' L room_1.cells room_1.slots) := by
  refine MetFree.of_bodySF (plainFor_of_name pn_0) hisR ?_
  intro p e s m args below meth c s₁ Bd hml0 hP hK
  obtain ⟨rfl, hZ, hh⟩ := hP
  have hx := Bd.exec
  have hby := Bd.bytes
  have hml : c.maxLocals = 10 := hml0
  have hown : s.vm.findClass "com/example/albizia/albizia/limits/LimitIsNonePinLaw" = some m.cls := findClass_of_methodNamed Bd.named
  have hnm := (name_of_methodNamed Bd.named Bd.method).1
  have X0 : Stand p l e room_1 s m #[(.int p1), (.long q2), (.int p3)] below meth c s₁ [] 0 0 := Stand.of_body Bd
  have e0 : s₁.heap = h0 := by rw [← hh, Bd.state]; rfl
  have N0 := Fr.nil n0
  have pre0 : ∀ t, Steps p.tables e below (s₁.setTop (mkF m 0 #[.val (.int p1), .val (.long q2), .second, .val (.int p3), .unset, .unset, .unset, .unset, .unset, .unset] [])) t → Steps p.tables e below (s₁.setTop (entryFrame m #[(.int p1), (.long q2), (.int p3)] maxLocals)) t := fun t k => castTop (ef_0 m p1 q2 p3) k
  have hZ_0 := hZ
  have hown_0 := hown
  obtain ⟨T5, X5, e5, st5⟩ := getS2 X0 hx hZ hown (host := "") (Or.inl (hw _ (List.mem_of_getElem? (i := 43) rfl))) Via.refl e0 S_SESSION (g := (mkF m 27 #[.val (.int p1), .val (.long q2), .second, .val (.int p3), .val (.int ((p1 &&& (2147483647 : Int32)) % (3 : Int32))), .unset, .unset, .unset, .unset, .unset] [])) rfl (hb hby at_27)
  obtain ⟨T6, h6, X6, e6, E6, A6, D6, -, st6⟩ := newO X5 hx hZ hown (hw _ (List.mem_of_getElem? (i := 4) rfl)) (hw _ (List.mem_of_getElem? (i := 5) rfl)) (hw _ (List.mem_of_getElem? (i := 6) rfl)) e5 (g := (mkF m 59 #[.val (.int p1), .val (.long q2), .second, .val (.int p3), .val (.int ((p1 &&& (2147483647 : Int32)) % (3 : Int32))), .val (.ref w4), .val (.long (0 : Int64)), .second, .unset, .unset] [])) rfl (hb hby at_59) (by decide) (by decide)
  obtain ⟨b6, g6⟩ : ∃ z, z = h0.size := ⟨_, rfl⟩      -- the fresh object's address
  rw [← g6] at A6 D6 st6      -- A6 : Exa Z h6 b6 "com/example/albizia/albizia/limits/Limit"; E6 : Ext h0 h6 (carries every older fact: .ext E6)
  have F_level_b6 : Fld Z h6 b6 "com/example/albizia/albizia/limits/Limit" "level" "Lcom/example/albizia/albizia/limits/LimitLevel;" .null := D6 (Or.inr (hw _ (List.mem_of_getElem? (i := 34) rfl))) (ty := (.object "com/example/albizia/albizia/limits/LimitLevel")) (by decide)
  have F_millis_b6 : Fld Z h6 b6 "com/example/albizia/albizia/limits/Limit" "millis" "J" (.long (0 : Int64)) := D6 (Or.inr (hw _ (List.mem_of_getElem? (i := 36) rfl))) (ty := .long) (by decide)
  have E_b6 := A6
  have g_b6 : n0 ≤ b6 := Nat.le_trans Z0 (Nat.le_of_eq g6.symm)
  have sz_b6 : h0.size ≤ b6 := (Nat.le_trans (Keep.refl h0 []).1 (Nat.le_of_eq g6.symm))
  have K6 : Keep h0 h6 [] := (Keep.refl h0 []).ext E6
  -- pc 67: the constructor of com/example/albizia/albizia/limits/Limit by its contract rm1
  obtain ⟨_, _, ⟨T7, L7, k7, n7⟩, -, X7, Sn7, Gn7, ⟨Lc7, hQ7, l7, y7, z7⟩, st7⟩ := X6.specialBackS hx (y := (⟨"com/example/albizia/albizia/limits/Limit", "<init>", "(Lcom/example/albizia/albizia/limits/LimitLevel;J)V"⟩ : MethodName)) rfl hown (mvT hZ (hw _ (List.mem_of_getElem? (i := 7) rfl))) (mvT hZ (hw _ (List.mem_of_getElem? (i := 8) rfl))) (mvT hZ (hw _ (List.mem_of_getElem? (i := 9) rfl))) (by decide) (backOfS (W := 1) (rm1 l Z a0 hw [] b6 w4 (0 : Int64) .null (.long (0 : Int64)) h6 n0 (Nat.le_trans Z0 E6.1) E_b6 F_level_b6 g_b6 F_millis_b6 (by decide)) hZ (hw _ (List.mem_of_getElem? (i := 9) rfl)) (hw _ (List.mem_of_getElem? (i := 6) rfl)) (by decide) (by decide)) (g := (mkF m 67 #[.val (.int p1), .val (.long q2), .second, .val (.int p3), .val (.int ((p1 &&& (2147483647 : Int32)) % (3 : Int32))), .val (.ref w4), .val (.long (0 : Int64)), .second, .unset, .unset] [(.long (0 : Int64)), (.ref w4), (.ref b6), (.ref b6)])) rfl (by rw [hml]; rfl) (Steps.refl _) (a := b6) (argsL := [(.ref w4), (.long (0 : Int64))]) (rest := [(.ref b6)]) (lenOf pd_0_0 rfl) rfl (by show 2 * 0 + _ ≤ _; exact Nat.le_of_eq rfl) (hb hby at_67) (fun _ _ => ⟨rfl, e6, (by decide : 1 + 2 ≤ _), (by decide : 2 + 24 ≤ _)⟩)
  dsimp only [Pt.U, Pt.locs, Pt.cells, Pt.slots] at X7 l7 y7 z7 st7 hQ7
  subst l7 y7 z7
  obtain ⟨rfl, N7q, K1q, E1q, F1q⟩ := hQ7
  have N7 := Fr.app N0 N7q
  have hZ : Z.Warmed39 (s.setVm T7.vm).vm := State.Warmed39.trans (t := s) hZ Sn7.1
  have hown : (s.setVm T7.vm).vm.findClass "com/example/albizia/albizia/limits/LimitIsNonePinLaw" = some m.cls := by rw [show (s.setVm T7.vm).vm = T7.vm from rfl, Sn7.1.alike.findClass]; exact hown
  -- pc 88: com/example/albizia/albizia/limits/Limit.isNone by the contract of the body that the receiver's class selects, rm6
  obtain ⟨cq8, kq8, q8a, q8b, q8c⟩ := isOf hZ rfl E1q
  obtain ⟨_, _, ⟨T8, L8, k8, n8⟩, -, X8, ⟨Lc8, hQ8, l8, y8, z8⟩, st8⟩ := X7.virtualBack hx (y := (⟨"com/example/albizia/albizia/limits/Limit", "isNone", "()Z"⟩ : MethodName)) (z := (⟨"com/example/albizia/albizia/limits/Limit", "isNone", "()Z"⟩ : MethodName)) hown (mvT hZ (hw _ (List.mem_of_getElem? (i := 37) rfl))) (mvT hZ (hw _ (List.mem_of_getElem? (i := 38) rfl))) (notFace_of_selects (args := #[]) (mvT hZ (hw _ (List.mem_of_getElem? (i := 40) rfl)))) (mvT hZ (hw _ (List.mem_of_getElem? (i := 40) rfl))) (mvT hZ (hw _ (List.mem_of_getElem? (i := 39) rfl))) (by decide) (backOf (W := 0) (rm6a l Z a0 hw [] b6 (0 : Int64) T7.heap n0 (Nat.le_trans Z0 (Nat.le_trans E6.1 K1q.1)) F1q (by decide)) hZ (hw _ (List.mem_of_getElem? (i := 41) rfl)) (hw _ (List.mem_of_getElem? (i := 6) rfl)) (by decide) (by decide)) q8a q8c (g := (mkF m 88 #[.val (.int p1), .val (.long q2), .second, .val (.int p3), .val (.int ((p1 &&& (2147483647 : Int32)) % (3 : Int32))), .val (.ref w4), .val (.long (0 : Int64)), .second, .val (.ref b6), .val (.int (1 : Int32))] [(.ref b6)])) rfl (by rw [hml]; rfl) (Steps.refl _) (argsL := []) (rest := []) (lenOf pd_0_3 rfl) rfl (by show 2 * 0 + _ ≤ _; exact Nat.le_of_eq rfl) (hb hby at_88) (fun _ _ => ⟨rfl, rfl, (by decide : 3 + 0 ≤ _), (by decide : 26 + 0 ≤ _)⟩)
  dsimp only [Pt.U, Pt.locs, Pt.cells, Pt.slots] at X8 l8 y8 z8 st8 hQ8
  subst l8 y8 z8
  obtain ⟨rfl, N8q, eq8⟩ := hQ8
  have N8 := Fr.app N7 N8q
  obtain ⟨fs, hr, hrun, hended, hRW⟩ := X8.leaveW Sn7 (Nat.le_of_eq (congrArg (fun hh : Heap => hh.size) eq8.symm)) (v := some (.int (1 : Int32))) (fun h => by rw [Bd.returns] at h; cases h)
  refine ⟨_, _, pre0 _ ?_, hrun, hended, _, _, rfl, ?_, hRW.1, hRW.2.1, hRW.2.2.1, hRW.2.2.2.mono (by decide) (by decide)⟩
  · show Steps p.tables e below (s₁.setTop (mkF m 0 #[.val (.int p1), .val (.long q2), .second, .val (.int p3), .unset, .unset, .unset, .unset, .unset, .unset] [])) _
    refine XS.iloadN X0.here hx rfl (hb hby at_0) rfl ?_
    show Steps p.tables e below (s₁.setTop (mkF m 1 #[.val (.int p1), .val (.long q2), .second, .val (.int p3), .unset, .unset, .unset, .unset, .unset, .unset] [(.int p1)])) _
    refine ldcI X0 hx hown_0 (mvT hZ_0 (hw _ (List.mem_of_getElem? (i := 0) rfl))) rfl (hb hby at_1) ?_
    show Steps p.tables e below (s₁.setTop (mkF m 3 #[.val (.int p1), .val (.long q2), .second, .val (.int p3), .unset, .unset, .unset, .unset, .unset, .unset] [(.int (2147483647 : Int32)), (.int p1)])) _
    refine XS.iand X0.here hx rfl (hb hby at_3) rfl ?_
    show Steps p.tables e below (s₁.setTop (mkF m 4 #[.val (.int p1), .val (.long q2), .second, .val (.int p3), .unset, .unset, .unset, .unset, .unset, .unset] [(.int (p1 &&& (2147483647 : Int32)))])) _
    refine XS.iconst X0.here hx rfl (hb hby at_4) ?_
    show Steps p.tables e below (s₁.setTop (mkF m 5 #[.val (.int p1), .val (.long q2), .second, .val (.int p3), .unset, .unset, .unset, .unset, .unset, .unset] [(.int (3 : Int32)), (.int (p1 &&& (2147483647 : Int32)))])) _
    refine iremM X0 hx rfl (hb hby at_5) rfl (by decide) ?_
    show Steps p.tables e below (s₁.setTop (mkF m 6 #[.val (.int p1), .val (.long q2), .second, .val (.int p3), .unset, .unset, .unset, .unset, .unset, .unset] [(.int ((p1 &&& (2147483647 : Int32)) % (3 : Int32)))])) _
    refine XS.istore X0.here hx rfl (hb hby at_6) rfl (l' := #[.val (.int p1), .val (.long q2), .second, .val (.int p3), .val (.int ((p1 &&& (2147483647 : Int32)) % (3 : Int32))), .unset, .unset, .unset, .unset, .unset]) rfl ?_
    show Steps p.tables e below (s₁.setTop (mkF m 8 #[.val (.int p1), .val (.long q2), .second, .val (.int p3), .val (.int ((p1 &&& (2147483647 : Int32)) % (3 : Int32))), .unset, .unset, .unset, .unset, .unset] [])) _
    refine XS.iload X0.here hx rfl (hb hby at_8) rfl ?_
    show Steps p.tables e below (s₁.setTop (mkF m 10 #[.val (.int p1), .val (.long q2), .second, .val (.int p3), .val (.int ((p1 &&& (2147483647 : Int32)) % (3 : Int32))), .unset, .unset, .unset, .unset, .unset] [(.int ((p1 &&& (2147483647 : Int32)) % (3 : Int32)))])) _
    refine XS.ifYes X0.here hx rfl (pc0 := 10) (pc' := 21) rfl (hb hby at_10) rfl ((if0 _ _).trans (feq hc10).2) (by decide) (by decide) ?_
    show Steps p.tables e below (s₁.setTop (mkF m 21 #[.val (.int p1), .val (.long q2), .second, .val (.int p3), .val (.int ((p1 &&& (2147483647 : Int32)) % (3 : Int32))), .unset, .unset, .unset, .unset, .unset] [])) _
    refine XS.iload X0.here hx rfl (hb hby at_21) rfl ?_
    show Steps p.tables e below (s₁.setTop (mkF m 23 #[.val (.int p1), .val (.long q2), .second, .val (.int p3), .val (.int ((p1 &&& (2147483647 : Int32)) % (3 : Int32))), .unset, .unset, .unset, .unset, .unset] [(.int ((p1 &&& (2147483647 : Int32)) % (3 : Int32)))])) _
    refine XS.iconst X0.here hx rfl (hb hby at_23) ?_
    show Steps p.tables e below (s₁.setTop (mkF m 24 #[.val (.int p1), .val (.long q2), .second, .val (.int p3), .val (.int ((p1 &&& (2147483647 : Int32)) % (3 : Int32))), .unset, .unset, .unset, .unset, .unset] [(.int (1 : Int32)), (.int ((p1 &&& (2147483647 : Int32)) % (3 : Int32)))])) _
    refine XS.icmpNo X0.here hx rfl (hb hby at_24) rfl (teq hc24).2 ?_
    show Steps p.tables e below (s₁.setTop (mkF m 27 #[.val (.int p1), .val (.long q2), .second, .val (.int p3), .val (.int ((p1 &&& (2147483647 : Int32)) % (3 : Int32))), .unset, .unset, .unset, .unset, .unset] [])) _
    refine st5 _ ?_
    show Steps p.tables e below (T5.setTop (mkF m 30 #[.val (.int p1), .val (.long q2), .second, .val (.int p3), .val (.int ((p1 &&& (2147483647 : Int32)) % (3 : Int32))), .unset, .unset, .unset, .unset, .unset] [(.ref w4)])) _
    refine XS.astore X5.here hx rfl (hb hby at_30) rfl rfl (l' := #[.val (.int p1), .val (.long q2), .second, .val (.int p3), .val (.int ((p1 &&& (2147483647 : Int32)) % (3 : Int32))), .val (.ref w4), .unset, .unset, .unset, .unset]) rfl ?_
    show Steps p.tables e below (T5.setTop (mkF m 32 #[.val (.int p1), .val (.long q2), .second, .val (.int p3), .val (.int ((p1 &&& (2147483647 : Int32)) % (3 : Int32))), .val (.ref w4), .unset, .unset, .unset, .unset] [])) _
    refine XS.goto X5.here hx rfl (pc0 := 32) (pc' := 40) rfl (hb hby at_32) (by decide) (by decide) ?_
    show Steps p.tables e below (T5.setTop (mkF m 40 #[.val (.int p1), .val (.long q2), .second, .val (.int p3), .val (.int ((p1 &&& (2147483647 : Int32)) % (3 : Int32))), .val (.ref w4), .unset, .unset, .unset, .unset] [])) _
    refine XS.iloadN X5.here hx rfl (hb hby at_40) rfl ?_
    show Steps p.tables e below (T5.setTop (mkF m 41 #[.val (.int p1), .val (.long q2), .second, .val (.int p3), .val (.int ((p1 &&& (2147483647 : Int32)) % (3 : Int32))), .val (.ref w4), .unset, .unset, .unset, .unset] [(.int p3)])) _
    refine XS.iconst X5.here hx rfl (hb hby at_41) ?_
    show Steps p.tables e below (T5.setTop (mkF m 42 #[.val (.int p1), .val (.long q2), .second, .val (.int p3), .val (.int ((p1 &&& (2147483647 : Int32)) % (3 : Int32))), .val (.ref w4), .unset, .unset, .unset, .unset] [(.int (1 : Int32)), (.int p3)])) _
    refine XS.iand X5.here hx rfl (hb hby at_42) rfl ?_
    show Steps p.tables e below (T5.setTop (mkF m 43 #[.val (.int p1), .val (.long q2), .second, .val (.int p3), .val (.int ((p1 &&& (2147483647 : Int32)) % (3 : Int32))), .val (.ref w4), .unset, .unset, .unset, .unset] [(.int (p3 &&& (1 : Int32)))])) _
    refine XS.ifNo X5.here hx rfl (hb hby at_43) rfl ((if0 _ _).trans (feq hc43).1) ?_
    show Steps p.tables e below (T5.setTop (mkF m 46 #[.val (.int p1), .val (.long q2), .second, .val (.int p3), .val (.int ((p1 &&& (2147483647 : Int32)) % (3 : Int32))), .val (.ref w4), .unset, .unset, .unset, .unset] [])) _
    refine XS.lconst X5.here hx rfl (hb hby at_46) ?_
    show Steps p.tables e below (T5.setTop (mkF m 47 #[.val (.int p1), .val (.long q2), .second, .val (.int p3), .val (.int ((p1 &&& (2147483647 : Int32)) % (3 : Int32))), .val (.ref w4), .unset, .unset, .unset, .unset] [(.long (0 : Int64))])) _
    refine XS.lstore X5.here hx rfl (hb hby at_47) rfl (l' := #[.val (.int p1), .val (.long q2), .second, .val (.int p3), .val (.int ((p1 &&& (2147483647 : Int32)) % (3 : Int32))), .val (.ref w4), .val (.long (0 : Int64)), .second, .unset, .unset]) rfl ?_
    show Steps p.tables e below (T5.setTop (mkF m 49 #[.val (.int p1), .val (.long q2), .second, .val (.int p3), .val (.int ((p1 &&& (2147483647 : Int32)) % (3 : Int32))), .val (.ref w4), .val (.long (0 : Int64)), .second, .unset, .unset] [])) _
    refine XS.goto X5.here hx rfl (pc0 := 49) (pc' := 59) rfl (hb hby at_49) (by decide) (by decide) ?_
    show Steps p.tables e below (T5.setTop (mkF m 59 #[.val (.int p1), .val (.long q2), .second, .val (.int p3), .val (.int ((p1 &&& (2147483647 : Int32)) % (3 : Int32))), .val (.ref w4), .val (.long (0 : Int64)), .second, .unset, .unset] [])) _
    refine st6 _ ?_
    show Steps p.tables e below (T6.setTop (mkF m 62 #[.val (.int p1), .val (.long q2), .second, .val (.int p3), .val (.int ((p1 &&& (2147483647 : Int32)) % (3 : Int32))), .val (.ref w4), .val (.long (0 : Int64)), .second, .unset, .unset] [(.ref b6)])) _
    refine XS.dup X6.here hx rfl (hb hby at_62) rfl rfl ?_
    show Steps p.tables e below (T6.setTop (mkF m 63 #[.val (.int p1), .val (.long q2), .second, .val (.int p3), .val (.int ((p1 &&& (2147483647 : Int32)) % (3 : Int32))), .val (.ref w4), .val (.long (0 : Int64)), .second, .unset, .unset] [(.ref b6), (.ref b6)])) _
    refine XS.aload X6.here hx rfl (hb hby at_63) rfl rfl ?_
    show Steps p.tables e below (T6.setTop (mkF m 65 #[.val (.int p1), .val (.long q2), .second, .val (.int p3), .val (.int ((p1 &&& (2147483647 : Int32)) % (3 : Int32))), .val (.ref w4), .val (.long (0 : Int64)), .second, .unset, .unset] [(.ref w4), (.ref b6), (.ref b6)])) _
    refine XS.lload X6.here hx rfl (hb hby at_65) rfl ?_
    show Steps p.tables e below (T6.setTop (mkF m 67 #[.val (.int p1), .val (.long q2), .second, .val (.int p3), .val (.int ((p1 &&& (2147483647 : Int32)) % (3 : Int32))), .val (.ref w4), .val (.long (0 : Int64)), .second, .unset, .unset] [(.long (0 : Int64)), (.ref w4), (.ref b6), (.ref b6)])) _
    refine st7.trans ?_
    show Steps p.tables e below (T7.setTop (mkF m 70 #[.val (.int p1), .val (.long q2), .second, .val (.int p3), .val (.int ((p1 &&& (2147483647 : Int32)) % (3 : Int32))), .val (.ref w4), .val (.long (0 : Int64)), .second, .unset, .unset] [(.ref b6)])) _
    refine XS.astore X7.here hx rfl (hb hby at_70) rfl rfl (l' := #[.val (.int p1), .val (.long q2), .second, .val (.int p3), .val (.int ((p1 &&& (2147483647 : Int32)) % (3 : Int32))), .val (.ref w4), .val (.long (0 : Int64)), .second, .val (.ref b6), .unset]) rfl ?_
    show Steps p.tables e below (T7.setTop (mkF m 72 #[.val (.int p1), .val (.long q2), .second, .val (.int p3), .val (.int ((p1 &&& (2147483647 : Int32)) % (3 : Int32))), .val (.ref w4), .val (.long (0 : Int64)), .second, .val (.ref b6), .unset] [])) _
    refine XS.lload X7.here hx rfl (hb hby at_72) rfl ?_
    show Steps p.tables e below (T7.setTop (mkF m 74 #[.val (.int p1), .val (.long q2), .second, .val (.int p3), .val (.int ((p1 &&& (2147483647 : Int32)) % (3 : Int32))), .val (.ref w4), .val (.long (0 : Int64)), .second, .val (.ref b6), .unset] [(.long (0 : Int64))])) _
    refine XS.lconst X7.here hx rfl (hb hby at_74) ?_
    show Steps p.tables e below (T7.setTop (mkF m 75 #[.val (.int p1), .val (.long q2), .second, .val (.int p3), .val (.int ((p1 &&& (2147483647 : Int32)) % (3 : Int32))), .val (.ref w4), .val (.long (0 : Int64)), .second, .val (.ref b6), .unset] [(.long (0 : Int64)), (.long (0 : Int64))])) _
    refine XS.lcmp X7.here hx rfl (hb hby at_75) rfl ?_
    show Steps p.tables e below (T7.setTop (mkF m 76 #[.val (.int p1), .val (.long q2), .second, .val (.int p3), .val (.int ((p1 &&& (2147483647 : Int32)) % (3 : Int32))), .val (.ref w4), .val (.long (0 : Int64)), .second, .val (.ref b6), .unset] [(.int (lcmpW (0 : Int64) (0 : Int64)))])) _
    refine XS.ifNo X7.here hx rfl (hb hby at_76) rfl ((if0 _ _).trans (teq (by decide : (lcmpW (0 : Int64) (0 : Int64)) = (0 : Int32))).2) ?_
    show Steps p.tables e below (T7.setTop (mkF m 79 #[.val (.int p1), .val (.long q2), .second, .val (.int p3), .val (.int ((p1 &&& (2147483647 : Int32)) % (3 : Int32))), .val (.ref w4), .val (.long (0 : Int64)), .second, .val (.ref b6), .unset] [])) _
    refine XS.iconst X7.here hx rfl (hb hby at_79) ?_
    show Steps p.tables e below (T7.setTop (mkF m 80 #[.val (.int p1), .val (.long q2), .second, .val (.int p3), .val (.int ((p1 &&& (2147483647 : Int32)) % (3 : Int32))), .val (.ref w4), .val (.long (0 : Int64)), .second, .val (.ref b6), .unset] [(.int (1 : Int32))])) _
    refine XS.goto X7.here hx rfl (pc0 := 80) (pc' := 84) rfl (hb hby at_80) (by decide) (by decide) ?_
    show Steps p.tables e below (T7.setTop (mkF m 84 #[.val (.int p1), .val (.long q2), .second, .val (.int p3), .val (.int ((p1 &&& (2147483647 : Int32)) % (3 : Int32))), .val (.ref w4), .val (.long (0 : Int64)), .second, .val (.ref b6), .unset] [(.int (1 : Int32))])) _
    refine XS.istore X7.here hx rfl (hb hby at_84) rfl (l' := #[.val (.int p1), .val (.long q2), .second, .val (.int p3), .val (.int ((p1 &&& (2147483647 : Int32)) % (3 : Int32))), .val (.ref w4), .val (.long (0 : Int64)), .second, .val (.ref b6), .val (.int (1 : Int32))]) rfl ?_
    show Steps p.tables e below (T7.setTop (mkF m 86 #[.val (.int p1), .val (.long q2), .second, .val (.int p3), .val (.int ((p1 &&& (2147483647 : Int32)) % (3 : Int32))), .val (.ref w4), .val (.long (0 : Int64)), .second, .val (.ref b6), .val (.int (1 : Int32))] [])) _
    refine XS.aload X7.here hx rfl (hb hby at_86) rfl rfl ?_
    show Steps p.tables e below (T7.setTop (mkF m 88 #[.val (.int p1), .val (.long q2), .second, .val (.int p3), .val (.int ((p1 &&& (2147483647 : Int32)) % (3 : Int32))), .val (.ref w4), .val (.long (0 : Int64)), .second, .val (.ref b6), .val (.int (1 : Int32))] [(.ref b6)])) _
    refine st8.trans ?_
    show Steps p.tables e below (T8.setTop (mkF m 91 #[.val (.int p1), .val (.long q2), .second, .val (.int p3), .val (.int ((p1 &&& (2147483647 : Int32)) % (3 : Int32))), .val (.ref w4), .val (.long (0 : Int64)), .second, .val (.ref b6), .val (.int (1 : Int32))] [(.int (1 : Int32))])) _
    refine XS.iload X8.here hx rfl (hb hby at_91) rfl ?_
    show Steps p.tables e below (T8.setTop (mkF m 93 #[.val (.int p1), .val (.long q2), .second, .val (.int p3), .val (.int ((p1 &&& (2147483647 : Int32)) % (3 : Int32))), .val (.ref w4), .val (.long (0 : Int64)), .second, .val (.ref b6), .val (.int (1 : Int32))] [(.int (1 : Int32)), (.int (1 : Int32))])) _
    refine XS.icmpNo X8.here hx rfl (hb hby at_93) rfl (teq (rfl : (1 : Int32) = (1 : Int32))).2 ?_
    show Steps p.tables e below (T8.setTop (mkF m 96 #[.val (.int p1), .val (.long q2), .second, .val (.int p3), .val (.int ((p1 &&& (2147483647 : Int32)) % (3 : Int32))), .val (.ref w4), .val (.long (0 : Int64)), .second, .val (.ref b6), .val (.int (1 : Int32))] [])) _
    refine XS.iconst X8.here hx rfl (hb hby at_96) ?_
    show Steps p.tables e below (T8.setTop (mkF m 97 #[.val (.int p1), .val (.long q2), .second, .val (.int p3), .val (.int ((p1 &&& (2147483647 : Int32)) % (3 : Int32))), .val (.ref w4), .val (.long (0 : Int64)), .second, .val (.ref b6), .val (.int (1 : Int32))] [(.int (1 : Int32))])) _
    refine XS.goto X8.here hx rfl (pc0 := 97) (pc' := 101) rfl (hb hby at_97) (by decide) (by decide) ?_
    show Steps p.tables e below (T8.setTop (mkF m 101 #[.val (.int p1), .val (.long q2), .second, .val (.int p3), .val (.int ((p1 &&& (2147483647 : Int32)) % (3 : Int32))), .val (.ref w4), .val (.long (0 : Int64)), .second, .val (.ref b6), .val (.int (1 : Int32))] [(.int (1 : Int32))])) _
    exact retN X8 hx (t := .boolean) Bd.returns (by simp) (hb hby at_101) hr
  · show Q0 n0 _ T8.heap _
    rw [eq8]
    exact ⟨rfl, N8⟩

set_option maxRecDepth 65536 in
set_option maxHeartbeats 40000000 in
theorem rm0_11 (l : Launch) (Z : State) (a0 : Array Value) (hw : ∀ d ∈ tables_1, d.before a0 Z = true) (ws : List Jvm.Cond) (p1 : Int32) (q2 : Int64) (p3 : Int32) (w4 : Addr) (h0 : Heap) (n0 : Nat) (Z0 : n0 ≤ h0.size) (S_SESSION : Sta Z h0 "com/example/albizia/albizia/limits/LimitLevel" "SESSION" "Lcom/example/albizia/albizia/limits/LimitLevel;" (.ref w4)) (hc10 : ¬ (((p1 &&& (2147483647 : Int32)) % (3 : Int32)) = (0 : Int32))) (hc24 : ((p1 &&& (2147483647 : Int32)) % (3 : Int32)) = (1 : Int32)) (hc43 : (p3 &&& (1 : Int32)) = (0 : Int32)) (hc76 : (lcmpW (q2 &&& (9223372036854775807 : Int64)) (0 : Int64)) = (0 : Int32)) :
    MetFree l x (head1 (Jvm.Cond.code x code maxLocals ret :: ws) room_1) (fun a U => a = #[(.int p1), (.long q2), (.int p3)] ∧ Z.Warmed39 U.vm ∧ U.heap = h0) (fun _ _ _ _ _ => True) (fun _ U o U' => ∃ v L, o = .returned v ∧ Q0 n0 v U'.heap L ∧ ReturnedEndW U o U' L room_1.cells room_1.slots) := by
  refine MetFree.of_bodySF (plainFor_of_name pn_0) hisR ?_
  intro p e s m args below meth c s₁ Bd hml0 hP hK
  obtain ⟨rfl, hZ, hh⟩ := hP
  have hx := Bd.exec
  have hby := Bd.bytes
  have hml : c.maxLocals = 10 := hml0
  have hown : s.vm.findClass "com/example/albizia/albizia/limits/LimitIsNonePinLaw" = some m.cls := findClass_of_methodNamed Bd.named
  have hnm := (name_of_methodNamed Bd.named Bd.method).1
  have X0 : Stand p l e room_1 s m #[(.int p1), (.long q2), (.int p3)] below meth c s₁ [] 0 0 := Stand.of_body Bd
  have e0 : s₁.heap = h0 := by rw [← hh, Bd.state]; rfl
  have N0 := Fr.nil n0
  have pre0 : ∀ t, Steps p.tables e below (s₁.setTop (mkF m 0 #[.val (.int p1), .val (.long q2), .second, .val (.int p3), .unset, .unset, .unset, .unset, .unset, .unset] [])) t → Steps p.tables e below (s₁.setTop (entryFrame m #[(.int p1), (.long q2), (.int p3)] maxLocals)) t := fun t k => castTop (ef_0 m p1 q2 p3) k
  have hZ_0 := hZ
  have hown_0 := hown
  obtain ⟨T5, X5, e5, st5⟩ := getS2 X0 hx hZ hown (host := "") (Or.inl (hw _ (List.mem_of_getElem? (i := 43) rfl))) Via.refl e0 S_SESSION (g := (mkF m 27 #[.val (.int p1), .val (.long q2), .second, .val (.int p3), .val (.int ((p1 &&& (2147483647 : Int32)) % (3 : Int32))), .unset, .unset, .unset, .unset, .unset] [])) rfl (hb hby at_27)
  obtain ⟨T6, h6, X6, e6, E6, A6, D6, -, st6⟩ := newO X5 hx hZ hown (hw _ (List.mem_of_getElem? (i := 4) rfl)) (hw _ (List.mem_of_getElem? (i := 5) rfl)) (hw _ (List.mem_of_getElem? (i := 6) rfl)) e5 (g := (mkF m 59 #[.val (.int p1), .val (.long q2), .second, .val (.int p3), .val (.int ((p1 &&& (2147483647 : Int32)) % (3 : Int32))), .val (.ref w4), .val (.long (q2 &&& (9223372036854775807 : Int64))), .second, .unset, .unset] [])) rfl (hb hby at_59) (by decide) (by decide)
  obtain ⟨b6, g6⟩ : ∃ z, z = h0.size := ⟨_, rfl⟩      -- the fresh object's address
  rw [← g6] at A6 D6 st6      -- A6 : Exa Z h6 b6 "com/example/albizia/albizia/limits/Limit"; E6 : Ext h0 h6 (carries every older fact: .ext E6)
  have F_level_b6 : Fld Z h6 b6 "com/example/albizia/albizia/limits/Limit" "level" "Lcom/example/albizia/albizia/limits/LimitLevel;" .null := D6 (Or.inr (hw _ (List.mem_of_getElem? (i := 34) rfl))) (ty := (.object "com/example/albizia/albizia/limits/LimitLevel")) (by decide)
  have F_millis_b6 : Fld Z h6 b6 "com/example/albizia/albizia/limits/Limit" "millis" "J" (.long (0 : Int64)) := D6 (Or.inr (hw _ (List.mem_of_getElem? (i := 36) rfl))) (ty := .long) (by decide)
  have E_b6 := A6
  have g_b6 : n0 ≤ b6 := Nat.le_trans Z0 (Nat.le_of_eq g6.symm)
  have sz_b6 : h0.size ≤ b6 := (Nat.le_trans (Keep.refl h0 []).1 (Nat.le_of_eq g6.symm))
  have K6 : Keep h0 h6 [] := (Keep.refl h0 []).ext E6
  -- pc 67: the constructor of com/example/albizia/albizia/limits/Limit by its contract rm1
  obtain ⟨_, _, ⟨T7, L7, k7, n7⟩, -, X7, Sn7, Gn7, ⟨Lc7, hQ7, l7, y7, z7⟩, st7⟩ := X6.specialBackS hx (y := (⟨"com/example/albizia/albizia/limits/Limit", "<init>", "(Lcom/example/albizia/albizia/limits/LimitLevel;J)V"⟩ : MethodName)) rfl hown (mvT hZ (hw _ (List.mem_of_getElem? (i := 7) rfl))) (mvT hZ (hw _ (List.mem_of_getElem? (i := 8) rfl))) (mvT hZ (hw _ (List.mem_of_getElem? (i := 9) rfl))) (by decide) (backOfS (W := 1) (rm1 l Z a0 hw [] b6 w4 (q2 &&& (9223372036854775807 : Int64)) .null (.long (0 : Int64)) h6 n0 (Nat.le_trans Z0 E6.1) E_b6 F_level_b6 g_b6 F_millis_b6 (own_nn q2)) hZ (hw _ (List.mem_of_getElem? (i := 9) rfl)) (hw _ (List.mem_of_getElem? (i := 6) rfl)) (by decide) (by decide)) (g := (mkF m 67 #[.val (.int p1), .val (.long q2), .second, .val (.int p3), .val (.int ((p1 &&& (2147483647 : Int32)) % (3 : Int32))), .val (.ref w4), .val (.long (q2 &&& (9223372036854775807 : Int64))), .second, .unset, .unset] [(.long (q2 &&& (9223372036854775807 : Int64))), (.ref w4), (.ref b6), (.ref b6)])) rfl (by rw [hml]; rfl) (Steps.refl _) (a := b6) (argsL := [(.ref w4), (.long (q2 &&& (9223372036854775807 : Int64)))]) (rest := [(.ref b6)]) (lenOf pd_0_0 rfl) rfl (by show 2 * 0 + _ ≤ _; exact Nat.le_of_eq rfl) (hb hby at_67) (fun _ _ => ⟨rfl, e6, (by decide : 1 + 2 ≤ _), (by decide : 2 + 24 ≤ _)⟩)
  dsimp only [Pt.U, Pt.locs, Pt.cells, Pt.slots] at X7 l7 y7 z7 st7 hQ7
  subst l7 y7 z7
  obtain ⟨rfl, N7q, K1q, E1q, F1q⟩ := hQ7
  have N7 := Fr.app N0 N7q
  have hZ : Z.Warmed39 (s.setVm T7.vm).vm := State.Warmed39.trans (t := s) hZ Sn7.1
  have hown : (s.setVm T7.vm).vm.findClass "com/example/albizia/albizia/limits/LimitIsNonePinLaw" = some m.cls := by rw [show (s.setVm T7.vm).vm = T7.vm from rfl, Sn7.1.alike.findClass]; exact hown
  -- pc 88: com/example/albizia/albizia/limits/Limit.isNone by the contract of the body that the receiver's class selects, rm6
  obtain ⟨cq8, kq8, q8a, q8b, q8c⟩ := isOf hZ rfl E1q
  obtain ⟨_, _, ⟨T8, L8, k8, n8⟩, -, X8, ⟨Lc8, hQ8, l8, y8, z8⟩, st8⟩ := X7.virtualBack hx (y := (⟨"com/example/albizia/albizia/limits/Limit", "isNone", "()Z"⟩ : MethodName)) (z := (⟨"com/example/albizia/albizia/limits/Limit", "isNone", "()Z"⟩ : MethodName)) hown (mvT hZ (hw _ (List.mem_of_getElem? (i := 37) rfl))) (mvT hZ (hw _ (List.mem_of_getElem? (i := 38) rfl))) (notFace_of_selects (args := #[]) (mvT hZ (hw _ (List.mem_of_getElem? (i := 40) rfl)))) (mvT hZ (hw _ (List.mem_of_getElem? (i := 40) rfl))) (mvT hZ (hw _ (List.mem_of_getElem? (i := 39) rfl))) (by decide) (backOf (W := 0) (rm6a l Z a0 hw [] b6 (q2 &&& (9223372036854775807 : Int64)) T7.heap n0 (Nat.le_trans Z0 (Nat.le_trans E6.1 K1q.1)) F1q hc76) hZ (hw _ (List.mem_of_getElem? (i := 41) rfl)) (hw _ (List.mem_of_getElem? (i := 6) rfl)) (by decide) (by decide)) q8a q8c (g := (mkF m 88 #[.val (.int p1), .val (.long q2), .second, .val (.int p3), .val (.int ((p1 &&& (2147483647 : Int32)) % (3 : Int32))), .val (.ref w4), .val (.long (q2 &&& (9223372036854775807 : Int64))), .second, .val (.ref b6), .val (.int (1 : Int32))] [(.ref b6)])) rfl (by rw [hml]; rfl) (Steps.refl _) (argsL := []) (rest := []) (lenOf pd_0_3 rfl) rfl (by show 2 * 0 + _ ≤ _; exact Nat.le_of_eq rfl) (hb hby at_88) (fun _ _ => ⟨rfl, rfl, (by decide : 3 + 0 ≤ _), (by decide : 26 + 0 ≤ _)⟩)
  dsimp only [Pt.U, Pt.locs, Pt.cells, Pt.slots] at X8 l8 y8 z8 st8 hQ8
  subst l8 y8 z8
  obtain ⟨rfl, N8q, eq8⟩ := hQ8
  have N8 := Fr.app N7 N8q
  obtain ⟨fs, hr, hrun, hended, hRW⟩ := X8.leaveW Sn7 (Nat.le_of_eq (congrArg (fun hh : Heap => hh.size) eq8.symm)) (v := some (.int (1 : Int32))) (fun h => by rw [Bd.returns] at h; cases h)
  refine ⟨_, _, pre0 _ ?_, hrun, hended, _, _, rfl, ?_, hRW.1, hRW.2.1, hRW.2.2.1, hRW.2.2.2.mono (by decide) (by decide)⟩
  · show Steps p.tables e below (s₁.setTop (mkF m 0 #[.val (.int p1), .val (.long q2), .second, .val (.int p3), .unset, .unset, .unset, .unset, .unset, .unset] [])) _
    refine XS.iloadN X0.here hx rfl (hb hby at_0) rfl ?_
    show Steps p.tables e below (s₁.setTop (mkF m 1 #[.val (.int p1), .val (.long q2), .second, .val (.int p3), .unset, .unset, .unset, .unset, .unset, .unset] [(.int p1)])) _
    refine ldcI X0 hx hown_0 (mvT hZ_0 (hw _ (List.mem_of_getElem? (i := 0) rfl))) rfl (hb hby at_1) ?_
    show Steps p.tables e below (s₁.setTop (mkF m 3 #[.val (.int p1), .val (.long q2), .second, .val (.int p3), .unset, .unset, .unset, .unset, .unset, .unset] [(.int (2147483647 : Int32)), (.int p1)])) _
    refine XS.iand X0.here hx rfl (hb hby at_3) rfl ?_
    show Steps p.tables e below (s₁.setTop (mkF m 4 #[.val (.int p1), .val (.long q2), .second, .val (.int p3), .unset, .unset, .unset, .unset, .unset, .unset] [(.int (p1 &&& (2147483647 : Int32)))])) _
    refine XS.iconst X0.here hx rfl (hb hby at_4) ?_
    show Steps p.tables e below (s₁.setTop (mkF m 5 #[.val (.int p1), .val (.long q2), .second, .val (.int p3), .unset, .unset, .unset, .unset, .unset, .unset] [(.int (3 : Int32)), (.int (p1 &&& (2147483647 : Int32)))])) _
    refine iremM X0 hx rfl (hb hby at_5) rfl (by decide) ?_
    show Steps p.tables e below (s₁.setTop (mkF m 6 #[.val (.int p1), .val (.long q2), .second, .val (.int p3), .unset, .unset, .unset, .unset, .unset, .unset] [(.int ((p1 &&& (2147483647 : Int32)) % (3 : Int32)))])) _
    refine XS.istore X0.here hx rfl (hb hby at_6) rfl (l' := #[.val (.int p1), .val (.long q2), .second, .val (.int p3), .val (.int ((p1 &&& (2147483647 : Int32)) % (3 : Int32))), .unset, .unset, .unset, .unset, .unset]) rfl ?_
    show Steps p.tables e below (s₁.setTop (mkF m 8 #[.val (.int p1), .val (.long q2), .second, .val (.int p3), .val (.int ((p1 &&& (2147483647 : Int32)) % (3 : Int32))), .unset, .unset, .unset, .unset, .unset] [])) _
    refine XS.iload X0.here hx rfl (hb hby at_8) rfl ?_
    show Steps p.tables e below (s₁.setTop (mkF m 10 #[.val (.int p1), .val (.long q2), .second, .val (.int p3), .val (.int ((p1 &&& (2147483647 : Int32)) % (3 : Int32))), .unset, .unset, .unset, .unset, .unset] [(.int ((p1 &&& (2147483647 : Int32)) % (3 : Int32)))])) _
    refine XS.ifYes X0.here hx rfl (pc0 := 10) (pc' := 21) rfl (hb hby at_10) rfl ((if0 _ _).trans (feq hc10).2) (by decide) (by decide) ?_
    show Steps p.tables e below (s₁.setTop (mkF m 21 #[.val (.int p1), .val (.long q2), .second, .val (.int p3), .val (.int ((p1 &&& (2147483647 : Int32)) % (3 : Int32))), .unset, .unset, .unset, .unset, .unset] [])) _
    refine XS.iload X0.here hx rfl (hb hby at_21) rfl ?_
    show Steps p.tables e below (s₁.setTop (mkF m 23 #[.val (.int p1), .val (.long q2), .second, .val (.int p3), .val (.int ((p1 &&& (2147483647 : Int32)) % (3 : Int32))), .unset, .unset, .unset, .unset, .unset] [(.int ((p1 &&& (2147483647 : Int32)) % (3 : Int32)))])) _
    refine XS.iconst X0.here hx rfl (hb hby at_23) ?_
    show Steps p.tables e below (s₁.setTop (mkF m 24 #[.val (.int p1), .val (.long q2), .second, .val (.int p3), .val (.int ((p1 &&& (2147483647 : Int32)) % (3 : Int32))), .unset, .unset, .unset, .unset, .unset] [(.int (1 : Int32)), (.int ((p1 &&& (2147483647 : Int32)) % (3 : Int32)))])) _
    refine XS.icmpNo X0.here hx rfl (hb hby at_24) rfl (teq hc24).2 ?_
    show Steps p.tables e below (s₁.setTop (mkF m 27 #[.val (.int p1), .val (.long q2), .second, .val (.int p3), .val (.int ((p1 &&& (2147483647 : Int32)) % (3 : Int32))), .unset, .unset, .unset, .unset, .unset] [])) _
    refine st5 _ ?_
    show Steps p.tables e below (T5.setTop (mkF m 30 #[.val (.int p1), .val (.long q2), .second, .val (.int p3), .val (.int ((p1 &&& (2147483647 : Int32)) % (3 : Int32))), .unset, .unset, .unset, .unset, .unset] [(.ref w4)])) _
    refine XS.astore X5.here hx rfl (hb hby at_30) rfl rfl (l' := #[.val (.int p1), .val (.long q2), .second, .val (.int p3), .val (.int ((p1 &&& (2147483647 : Int32)) % (3 : Int32))), .val (.ref w4), .unset, .unset, .unset, .unset]) rfl ?_
    show Steps p.tables e below (T5.setTop (mkF m 32 #[.val (.int p1), .val (.long q2), .second, .val (.int p3), .val (.int ((p1 &&& (2147483647 : Int32)) % (3 : Int32))), .val (.ref w4), .unset, .unset, .unset, .unset] [])) _
    refine XS.goto X5.here hx rfl (pc0 := 32) (pc' := 40) rfl (hb hby at_32) (by decide) (by decide) ?_
    show Steps p.tables e below (T5.setTop (mkF m 40 #[.val (.int p1), .val (.long q2), .second, .val (.int p3), .val (.int ((p1 &&& (2147483647 : Int32)) % (3 : Int32))), .val (.ref w4), .unset, .unset, .unset, .unset] [])) _
    refine XS.iloadN X5.here hx rfl (hb hby at_40) rfl ?_
    show Steps p.tables e below (T5.setTop (mkF m 41 #[.val (.int p1), .val (.long q2), .second, .val (.int p3), .val (.int ((p1 &&& (2147483647 : Int32)) % (3 : Int32))), .val (.ref w4), .unset, .unset, .unset, .unset] [(.int p3)])) _
    refine XS.iconst X5.here hx rfl (hb hby at_41) ?_
    show Steps p.tables e below (T5.setTop (mkF m 42 #[.val (.int p1), .val (.long q2), .second, .val (.int p3), .val (.int ((p1 &&& (2147483647 : Int32)) % (3 : Int32))), .val (.ref w4), .unset, .unset, .unset, .unset] [(.int (1 : Int32)), (.int p3)])) _
    refine XS.iand X5.here hx rfl (hb hby at_42) rfl ?_
    show Steps p.tables e below (T5.setTop (mkF m 43 #[.val (.int p1), .val (.long q2), .second, .val (.int p3), .val (.int ((p1 &&& (2147483647 : Int32)) % (3 : Int32))), .val (.ref w4), .unset, .unset, .unset, .unset] [(.int (p3 &&& (1 : Int32)))])) _
    refine XS.ifYes X5.here hx rfl (pc0 := 43) (pc' := 52) rfl (hb hby at_43) rfl ((if0 _ _).trans (teq hc43).1) (by decide) (by decide) ?_
    show Steps p.tables e below (T5.setTop (mkF m 52 #[.val (.int p1), .val (.long q2), .second, .val (.int p3), .val (.int ((p1 &&& (2147483647 : Int32)) % (3 : Int32))), .val (.ref w4), .unset, .unset, .unset, .unset] [])) _
    refine XS.lloadN X5.here hx rfl (hb hby at_52) rfl ?_
    show Steps p.tables e below (T5.setTop (mkF m 53 #[.val (.int p1), .val (.long q2), .second, .val (.int p3), .val (.int ((p1 &&& (2147483647 : Int32)) % (3 : Int32))), .val (.ref w4), .unset, .unset, .unset, .unset] [(.long q2)])) _
    refine ldc2J X5 hx hown_0 (mvT hZ_0 (hw _ (List.mem_of_getElem? (i := 42) rfl))) rfl (hb hby at_53) ?_
    show Steps p.tables e below (T5.setTop (mkF m 56 #[.val (.int p1), .val (.long q2), .second, .val (.int p3), .val (.int ((p1 &&& (2147483647 : Int32)) % (3 : Int32))), .val (.ref w4), .unset, .unset, .unset, .unset] [(.long (9223372036854775807 : Int64)), (.long q2)])) _
    refine XS.land X5.here hx rfl (hb hby at_56) rfl ?_
    show Steps p.tables e below (T5.setTop (mkF m 57 #[.val (.int p1), .val (.long q2), .second, .val (.int p3), .val (.int ((p1 &&& (2147483647 : Int32)) % (3 : Int32))), .val (.ref w4), .unset, .unset, .unset, .unset] [(.long (q2 &&& (9223372036854775807 : Int64)))])) _
    refine XS.lstore X5.here hx rfl (hb hby at_57) rfl (l' := #[.val (.int p1), .val (.long q2), .second, .val (.int p3), .val (.int ((p1 &&& (2147483647 : Int32)) % (3 : Int32))), .val (.ref w4), .val (.long (q2 &&& (9223372036854775807 : Int64))), .second, .unset, .unset]) rfl ?_
    show Steps p.tables e below (T5.setTop (mkF m 59 #[.val (.int p1), .val (.long q2), .second, .val (.int p3), .val (.int ((p1 &&& (2147483647 : Int32)) % (3 : Int32))), .val (.ref w4), .val (.long (q2 &&& (9223372036854775807 : Int64))), .second, .unset, .unset] [])) _
    refine st6 _ ?_
    show Steps p.tables e below (T6.setTop (mkF m 62 #[.val (.int p1), .val (.long q2), .second, .val (.int p3), .val (.int ((p1 &&& (2147483647 : Int32)) % (3 : Int32))), .val (.ref w4), .val (.long (q2 &&& (9223372036854775807 : Int64))), .second, .unset, .unset] [(.ref b6)])) _
    refine XS.dup X6.here hx rfl (hb hby at_62) rfl rfl ?_
    show Steps p.tables e below (T6.setTop (mkF m 63 #[.val (.int p1), .val (.long q2), .second, .val (.int p3), .val (.int ((p1 &&& (2147483647 : Int32)) % (3 : Int32))), .val (.ref w4), .val (.long (q2 &&& (9223372036854775807 : Int64))), .second, .unset, .unset] [(.ref b6), (.ref b6)])) _
    refine XS.aload X6.here hx rfl (hb hby at_63) rfl rfl ?_
    show Steps p.tables e below (T6.setTop (mkF m 65 #[.val (.int p1), .val (.long q2), .second, .val (.int p3), .val (.int ((p1 &&& (2147483647 : Int32)) % (3 : Int32))), .val (.ref w4), .val (.long (q2 &&& (9223372036854775807 : Int64))), .second, .unset, .unset] [(.ref w4), (.ref b6), (.ref b6)])) _
    refine XS.lload X6.here hx rfl (hb hby at_65) rfl ?_
    show Steps p.tables e below (T6.setTop (mkF m 67 #[.val (.int p1), .val (.long q2), .second, .val (.int p3), .val (.int ((p1 &&& (2147483647 : Int32)) % (3 : Int32))), .val (.ref w4), .val (.long (q2 &&& (9223372036854775807 : Int64))), .second, .unset, .unset] [(.long (q2 &&& (9223372036854775807 : Int64))), (.ref w4), (.ref b6), (.ref b6)])) _
    refine st7.trans ?_
    show Steps p.tables e below (T7.setTop (mkF m 70 #[.val (.int p1), .val (.long q2), .second, .val (.int p3), .val (.int ((p1 &&& (2147483647 : Int32)) % (3 : Int32))), .val (.ref w4), .val (.long (q2 &&& (9223372036854775807 : Int64))), .second, .unset, .unset] [(.ref b6)])) _
    refine XS.astore X7.here hx rfl (hb hby at_70) rfl rfl (l' := #[.val (.int p1), .val (.long q2), .second, .val (.int p3), .val (.int ((p1 &&& (2147483647 : Int32)) % (3 : Int32))), .val (.ref w4), .val (.long (q2 &&& (9223372036854775807 : Int64))), .second, .val (.ref b6), .unset]) rfl ?_
    show Steps p.tables e below (T7.setTop (mkF m 72 #[.val (.int p1), .val (.long q2), .second, .val (.int p3), .val (.int ((p1 &&& (2147483647 : Int32)) % (3 : Int32))), .val (.ref w4), .val (.long (q2 &&& (9223372036854775807 : Int64))), .second, .val (.ref b6), .unset] [])) _
    refine XS.lload X7.here hx rfl (hb hby at_72) rfl ?_
    show Steps p.tables e below (T7.setTop (mkF m 74 #[.val (.int p1), .val (.long q2), .second, .val (.int p3), .val (.int ((p1 &&& (2147483647 : Int32)) % (3 : Int32))), .val (.ref w4), .val (.long (q2 &&& (9223372036854775807 : Int64))), .second, .val (.ref b6), .unset] [(.long (q2 &&& (9223372036854775807 : Int64)))])) _
    refine XS.lconst X7.here hx rfl (hb hby at_74) ?_
    show Steps p.tables e below (T7.setTop (mkF m 75 #[.val (.int p1), .val (.long q2), .second, .val (.int p3), .val (.int ((p1 &&& (2147483647 : Int32)) % (3 : Int32))), .val (.ref w4), .val (.long (q2 &&& (9223372036854775807 : Int64))), .second, .val (.ref b6), .unset] [(.long (0 : Int64)), (.long (q2 &&& (9223372036854775807 : Int64)))])) _
    refine XS.lcmp X7.here hx rfl (hb hby at_75) rfl ?_
    show Steps p.tables e below (T7.setTop (mkF m 76 #[.val (.int p1), .val (.long q2), .second, .val (.int p3), .val (.int ((p1 &&& (2147483647 : Int32)) % (3 : Int32))), .val (.ref w4), .val (.long (q2 &&& (9223372036854775807 : Int64))), .second, .val (.ref b6), .unset] [(.int (lcmpW (q2 &&& (9223372036854775807 : Int64)) (0 : Int64)))])) _
    refine XS.ifNo X7.here hx rfl (hb hby at_76) rfl ((if0 _ _).trans (teq hc76).2) ?_
    show Steps p.tables e below (T7.setTop (mkF m 79 #[.val (.int p1), .val (.long q2), .second, .val (.int p3), .val (.int ((p1 &&& (2147483647 : Int32)) % (3 : Int32))), .val (.ref w4), .val (.long (q2 &&& (9223372036854775807 : Int64))), .second, .val (.ref b6), .unset] [])) _
    refine XS.iconst X7.here hx rfl (hb hby at_79) ?_
    show Steps p.tables e below (T7.setTop (mkF m 80 #[.val (.int p1), .val (.long q2), .second, .val (.int p3), .val (.int ((p1 &&& (2147483647 : Int32)) % (3 : Int32))), .val (.ref w4), .val (.long (q2 &&& (9223372036854775807 : Int64))), .second, .val (.ref b6), .unset] [(.int (1 : Int32))])) _
    refine XS.goto X7.here hx rfl (pc0 := 80) (pc' := 84) rfl (hb hby at_80) (by decide) (by decide) ?_
    show Steps p.tables e below (T7.setTop (mkF m 84 #[.val (.int p1), .val (.long q2), .second, .val (.int p3), .val (.int ((p1 &&& (2147483647 : Int32)) % (3 : Int32))), .val (.ref w4), .val (.long (q2 &&& (9223372036854775807 : Int64))), .second, .val (.ref b6), .unset] [(.int (1 : Int32))])) _
    refine XS.istore X7.here hx rfl (hb hby at_84) rfl (l' := #[.val (.int p1), .val (.long q2), .second, .val (.int p3), .val (.int ((p1 &&& (2147483647 : Int32)) % (3 : Int32))), .val (.ref w4), .val (.long (q2 &&& (9223372036854775807 : Int64))), .second, .val (.ref b6), .val (.int (1 : Int32))]) rfl ?_
    show Steps p.tables e below (T7.setTop (mkF m 86 #[.val (.int p1), .val (.long q2), .second, .val (.int p3), .val (.int ((p1 &&& (2147483647 : Int32)) % (3 : Int32))), .val (.ref w4), .val (.long (q2 &&& (9223372036854775807 : Int64))), .second, .val (.ref b6), .val (.int (1 : Int32))] [])) _
    refine XS.aload X7.here hx rfl (hb hby at_86) rfl rfl ?_
    show Steps p.tables e below (T7.setTop (mkF m 88 #[.val (.int p1), .val (.long q2), .second, .val (.int p3), .val (.int ((p1 &&& (2147483647 : Int32)) % (3 : Int32))), .val (.ref w4), .val (.long (q2 &&& (9223372036854775807 : Int64))), .second, .val (.ref b6), .val (.int (1 : Int32))] [(.ref b6)])) _
    refine st8.trans ?_
    show Steps p.tables e below (T8.setTop (mkF m 91 #[.val (.int p1), .val (.long q2), .second, .val (.int p3), .val (.int ((p1 &&& (2147483647 : Int32)) % (3 : Int32))), .val (.ref w4), .val (.long (q2 &&& (9223372036854775807 : Int64))), .second, .val (.ref b6), .val (.int (1 : Int32))] [(.int (1 : Int32))])) _
    refine XS.iload X8.here hx rfl (hb hby at_91) rfl ?_
    show Steps p.tables e below (T8.setTop (mkF m 93 #[.val (.int p1), .val (.long q2), .second, .val (.int p3), .val (.int ((p1 &&& (2147483647 : Int32)) % (3 : Int32))), .val (.ref w4), .val (.long (q2 &&& (9223372036854775807 : Int64))), .second, .val (.ref b6), .val (.int (1 : Int32))] [(.int (1 : Int32)), (.int (1 : Int32))])) _
    refine XS.icmpNo X8.here hx rfl (hb hby at_93) rfl (teq (rfl : (1 : Int32) = (1 : Int32))).2 ?_
    show Steps p.tables e below (T8.setTop (mkF m 96 #[.val (.int p1), .val (.long q2), .second, .val (.int p3), .val (.int ((p1 &&& (2147483647 : Int32)) % (3 : Int32))), .val (.ref w4), .val (.long (q2 &&& (9223372036854775807 : Int64))), .second, .val (.ref b6), .val (.int (1 : Int32))] [])) _
    refine XS.iconst X8.here hx rfl (hb hby at_96) ?_
    show Steps p.tables e below (T8.setTop (mkF m 97 #[.val (.int p1), .val (.long q2), .second, .val (.int p3), .val (.int ((p1 &&& (2147483647 : Int32)) % (3 : Int32))), .val (.ref w4), .val (.long (q2 &&& (9223372036854775807 : Int64))), .second, .val (.ref b6), .val (.int (1 : Int32))] [(.int (1 : Int32))])) _
    refine XS.goto X8.here hx rfl (pc0 := 97) (pc' := 101) rfl (hb hby at_97) (by decide) (by decide) ?_
    show Steps p.tables e below (T8.setTop (mkF m 101 #[.val (.int p1), .val (.long q2), .second, .val (.int p3), .val (.int ((p1 &&& (2147483647 : Int32)) % (3 : Int32))), .val (.ref w4), .val (.long (q2 &&& (9223372036854775807 : Int64))), .second, .val (.ref b6), .val (.int (1 : Int32))] [(.int (1 : Int32))])) _
    exact retN X8 hx (t := .boolean) Bd.returns (by simp) (hb hby at_101) hr
  · show Q0 n0 _ T8.heap _
    rw [eq8]
    exact ⟨rfl, N8⟩

set_option maxRecDepth 65536 in
set_option maxHeartbeats 40000000 in
theorem rm0_12 (l : Launch) (Z : State) (a0 : Array Value) (hw : ∀ d ∈ tables_1, d.before a0 Z = true) (ws : List Jvm.Cond) (p1 : Int32) (q2 : Int64) (p3 : Int32) (w4 : Addr) (h0 : Heap) (n0 : Nat) (Z0 : n0 ≤ h0.size) (S_SESSION : Sta Z h0 "com/example/albizia/albizia/limits/LimitLevel" "SESSION" "Lcom/example/albizia/albizia/limits/LimitLevel;" (.ref w4)) (hc10 : ¬ (((p1 &&& (2147483647 : Int32)) % (3 : Int32)) = (0 : Int32))) (hc24 : ((p1 &&& (2147483647 : Int32)) % (3 : Int32)) = (1 : Int32)) (hc43 : (p3 &&& (1 : Int32)) = (0 : Int32)) (hc76 : ¬ ((lcmpW (q2 &&& (9223372036854775807 : Int64)) (0 : Int64)) = (0 : Int32))) :
    MetFree l x (head1 (Jvm.Cond.code x code maxLocals ret :: ws) room_1) (fun a U => a = #[(.int p1), (.long q2), (.int p3)] ∧ Z.Warmed39 U.vm ∧ U.heap = h0) (fun _ _ _ _ _ => True) (fun _ U o U' => ∃ v L, o = .returned v ∧ Q0 n0 v U'.heap L ∧ ReturnedEndW U o U' L room_1.cells room_1.slots) := by
  refine MetFree.of_bodySF (plainFor_of_name pn_0) hisR ?_
  intro p e s m args below meth c s₁ Bd hml0 hP hK
  obtain ⟨rfl, hZ, hh⟩ := hP
  have hx := Bd.exec
  have hby := Bd.bytes
  have hml : c.maxLocals = 10 := hml0
  have hown : s.vm.findClass "com/example/albizia/albizia/limits/LimitIsNonePinLaw" = some m.cls := findClass_of_methodNamed Bd.named
  have hnm := (name_of_methodNamed Bd.named Bd.method).1
  have X0 : Stand p l e room_1 s m #[(.int p1), (.long q2), (.int p3)] below meth c s₁ [] 0 0 := Stand.of_body Bd
  have e0 : s₁.heap = h0 := by rw [← hh, Bd.state]; rfl
  have N0 := Fr.nil n0
  have pre0 : ∀ t, Steps p.tables e below (s₁.setTop (mkF m 0 #[.val (.int p1), .val (.long q2), .second, .val (.int p3), .unset, .unset, .unset, .unset, .unset, .unset] [])) t → Steps p.tables e below (s₁.setTop (entryFrame m #[(.int p1), (.long q2), (.int p3)] maxLocals)) t := fun t k => castTop (ef_0 m p1 q2 p3) k
  have hZ_0 := hZ
  have hown_0 := hown
  obtain ⟨T5, X5, e5, st5⟩ := getS2 X0 hx hZ hown (host := "") (Or.inl (hw _ (List.mem_of_getElem? (i := 43) rfl))) Via.refl e0 S_SESSION (g := (mkF m 27 #[.val (.int p1), .val (.long q2), .second, .val (.int p3), .val (.int ((p1 &&& (2147483647 : Int32)) % (3 : Int32))), .unset, .unset, .unset, .unset, .unset] [])) rfl (hb hby at_27)
  obtain ⟨T6, h6, X6, e6, E6, A6, D6, -, st6⟩ := newO X5 hx hZ hown (hw _ (List.mem_of_getElem? (i := 4) rfl)) (hw _ (List.mem_of_getElem? (i := 5) rfl)) (hw _ (List.mem_of_getElem? (i := 6) rfl)) e5 (g := (mkF m 59 #[.val (.int p1), .val (.long q2), .second, .val (.int p3), .val (.int ((p1 &&& (2147483647 : Int32)) % (3 : Int32))), .val (.ref w4), .val (.long (q2 &&& (9223372036854775807 : Int64))), .second, .unset, .unset] [])) rfl (hb hby at_59) (by decide) (by decide)
  obtain ⟨b6, g6⟩ : ∃ z, z = h0.size := ⟨_, rfl⟩      -- the fresh object's address
  rw [← g6] at A6 D6 st6      -- A6 : Exa Z h6 b6 "com/example/albizia/albizia/limits/Limit"; E6 : Ext h0 h6 (carries every older fact: .ext E6)
  have F_level_b6 : Fld Z h6 b6 "com/example/albizia/albizia/limits/Limit" "level" "Lcom/example/albizia/albizia/limits/LimitLevel;" .null := D6 (Or.inr (hw _ (List.mem_of_getElem? (i := 34) rfl))) (ty := (.object "com/example/albizia/albizia/limits/LimitLevel")) (by decide)
  have F_millis_b6 : Fld Z h6 b6 "com/example/albizia/albizia/limits/Limit" "millis" "J" (.long (0 : Int64)) := D6 (Or.inr (hw _ (List.mem_of_getElem? (i := 36) rfl))) (ty := .long) (by decide)
  have E_b6 := A6
  have g_b6 : n0 ≤ b6 := Nat.le_trans Z0 (Nat.le_of_eq g6.symm)
  have sz_b6 : h0.size ≤ b6 := (Nat.le_trans (Keep.refl h0 []).1 (Nat.le_of_eq g6.symm))
  have K6 : Keep h0 h6 [] := (Keep.refl h0 []).ext E6
  -- pc 67: the constructor of com/example/albizia/albizia/limits/Limit by its contract rm1
  obtain ⟨_, _, ⟨T7, L7, k7, n7⟩, -, X7, Sn7, Gn7, ⟨Lc7, hQ7, l7, y7, z7⟩, st7⟩ := X6.specialBackS hx (y := (⟨"com/example/albizia/albizia/limits/Limit", "<init>", "(Lcom/example/albizia/albizia/limits/LimitLevel;J)V"⟩ : MethodName)) rfl hown (mvT hZ (hw _ (List.mem_of_getElem? (i := 7) rfl))) (mvT hZ (hw _ (List.mem_of_getElem? (i := 8) rfl))) (mvT hZ (hw _ (List.mem_of_getElem? (i := 9) rfl))) (by decide) (backOfS (W := 1) (rm1 l Z a0 hw [] b6 w4 (q2 &&& (9223372036854775807 : Int64)) .null (.long (0 : Int64)) h6 n0 (Nat.le_trans Z0 E6.1) E_b6 F_level_b6 g_b6 F_millis_b6 (own_nn q2)) hZ (hw _ (List.mem_of_getElem? (i := 9) rfl)) (hw _ (List.mem_of_getElem? (i := 6) rfl)) (by decide) (by decide)) (g := (mkF m 67 #[.val (.int p1), .val (.long q2), .second, .val (.int p3), .val (.int ((p1 &&& (2147483647 : Int32)) % (3 : Int32))), .val (.ref w4), .val (.long (q2 &&& (9223372036854775807 : Int64))), .second, .unset, .unset] [(.long (q2 &&& (9223372036854775807 : Int64))), (.ref w4), (.ref b6), (.ref b6)])) rfl (by rw [hml]; rfl) (Steps.refl _) (a := b6) (argsL := [(.ref w4), (.long (q2 &&& (9223372036854775807 : Int64)))]) (rest := [(.ref b6)]) (lenOf pd_0_0 rfl) rfl (by show 2 * 0 + _ ≤ _; exact Nat.le_of_eq rfl) (hb hby at_67) (fun _ _ => ⟨rfl, e6, (by decide : 1 + 2 ≤ _), (by decide : 2 + 24 ≤ _)⟩)
  dsimp only [Pt.U, Pt.locs, Pt.cells, Pt.slots] at X7 l7 y7 z7 st7 hQ7
  subst l7 y7 z7
  obtain ⟨rfl, N7q, K1q, E1q, F1q⟩ := hQ7
  have N7 := Fr.app N0 N7q
  have hZ : Z.Warmed39 (s.setVm T7.vm).vm := State.Warmed39.trans (t := s) hZ Sn7.1
  have hown : (s.setVm T7.vm).vm.findClass "com/example/albizia/albizia/limits/LimitIsNonePinLaw" = some m.cls := by rw [show (s.setVm T7.vm).vm = T7.vm from rfl, Sn7.1.alike.findClass]; exact hown
  -- pc 88: com/example/albizia/albizia/limits/Limit.isNone by the contract of the body that the receiver's class selects, rm6
  obtain ⟨cq8, kq8, q8a, q8b, q8c⟩ := isOf hZ rfl E1q
  obtain ⟨_, _, ⟨T8, L8, k8, n8⟩, -, X8, ⟨Lc8, hQ8, l8, y8, z8⟩, st8⟩ := X7.virtualBack hx (y := (⟨"com/example/albizia/albizia/limits/Limit", "isNone", "()Z"⟩ : MethodName)) (z := (⟨"com/example/albizia/albizia/limits/Limit", "isNone", "()Z"⟩ : MethodName)) hown (mvT hZ (hw _ (List.mem_of_getElem? (i := 37) rfl))) (mvT hZ (hw _ (List.mem_of_getElem? (i := 38) rfl))) (notFace_of_selects (args := #[]) (mvT hZ (hw _ (List.mem_of_getElem? (i := 40) rfl)))) (mvT hZ (hw _ (List.mem_of_getElem? (i := 40) rfl))) (mvT hZ (hw _ (List.mem_of_getElem? (i := 39) rfl))) (by decide) (backOf (W := 0) (rm6b l Z a0 hw [] b6 (q2 &&& (9223372036854775807 : Int64)) T7.heap n0 (Nat.le_trans Z0 (Nat.le_trans E6.1 K1q.1)) F1q hc76) hZ (hw _ (List.mem_of_getElem? (i := 41) rfl)) (hw _ (List.mem_of_getElem? (i := 6) rfl)) (by decide) (by decide)) q8a q8c (g := (mkF m 88 #[.val (.int p1), .val (.long q2), .second, .val (.int p3), .val (.int ((p1 &&& (2147483647 : Int32)) % (3 : Int32))), .val (.ref w4), .val (.long (q2 &&& (9223372036854775807 : Int64))), .second, .val (.ref b6), .val (.int (0 : Int32))] [(.ref b6)])) rfl (by rw [hml]; rfl) (Steps.refl _) (argsL := []) (rest := []) (lenOf pd_0_3 rfl) rfl (by show 2 * 0 + _ ≤ _; exact Nat.le_of_eq rfl) (hb hby at_88) (fun _ _ => ⟨rfl, rfl, (by decide : 3 + 0 ≤ _), (by decide : 26 + 0 ≤ _)⟩)
  dsimp only [Pt.U, Pt.locs, Pt.cells, Pt.slots] at X8 l8 y8 z8 st8 hQ8
  subst l8 y8 z8
  obtain ⟨rfl, N8q, eq8⟩ := hQ8
  have N8 := Fr.app N7 N8q
  obtain ⟨fs, hr, hrun, hended, hRW⟩ := X8.leaveW Sn7 (Nat.le_of_eq (congrArg (fun hh : Heap => hh.size) eq8.symm)) (v := some (.int (1 : Int32))) (fun h => by rw [Bd.returns] at h; cases h)
  refine ⟨_, _, pre0 _ ?_, hrun, hended, _, _, rfl, ?_, hRW.1, hRW.2.1, hRW.2.2.1, hRW.2.2.2.mono (by decide) (by decide)⟩
  · show Steps p.tables e below (s₁.setTop (mkF m 0 #[.val (.int p1), .val (.long q2), .second, .val (.int p3), .unset, .unset, .unset, .unset, .unset, .unset] [])) _
    refine XS.iloadN X0.here hx rfl (hb hby at_0) rfl ?_
    show Steps p.tables e below (s₁.setTop (mkF m 1 #[.val (.int p1), .val (.long q2), .second, .val (.int p3), .unset, .unset, .unset, .unset, .unset, .unset] [(.int p1)])) _
    refine ldcI X0 hx hown_0 (mvT hZ_0 (hw _ (List.mem_of_getElem? (i := 0) rfl))) rfl (hb hby at_1) ?_
    show Steps p.tables e below (s₁.setTop (mkF m 3 #[.val (.int p1), .val (.long q2), .second, .val (.int p3), .unset, .unset, .unset, .unset, .unset, .unset] [(.int (2147483647 : Int32)), (.int p1)])) _
    refine XS.iand X0.here hx rfl (hb hby at_3) rfl ?_
    show Steps p.tables e below (s₁.setTop (mkF m 4 #[.val (.int p1), .val (.long q2), .second, .val (.int p3), .unset, .unset, .unset, .unset, .unset, .unset] [(.int (p1 &&& (2147483647 : Int32)))])) _
    refine XS.iconst X0.here hx rfl (hb hby at_4) ?_
    show Steps p.tables e below (s₁.setTop (mkF m 5 #[.val (.int p1), .val (.long q2), .second, .val (.int p3), .unset, .unset, .unset, .unset, .unset, .unset] [(.int (3 : Int32)), (.int (p1 &&& (2147483647 : Int32)))])) _
    refine iremM X0 hx rfl (hb hby at_5) rfl (by decide) ?_
    show Steps p.tables e below (s₁.setTop (mkF m 6 #[.val (.int p1), .val (.long q2), .second, .val (.int p3), .unset, .unset, .unset, .unset, .unset, .unset] [(.int ((p1 &&& (2147483647 : Int32)) % (3 : Int32)))])) _
    refine XS.istore X0.here hx rfl (hb hby at_6) rfl (l' := #[.val (.int p1), .val (.long q2), .second, .val (.int p3), .val (.int ((p1 &&& (2147483647 : Int32)) % (3 : Int32))), .unset, .unset, .unset, .unset, .unset]) rfl ?_
    show Steps p.tables e below (s₁.setTop (mkF m 8 #[.val (.int p1), .val (.long q2), .second, .val (.int p3), .val (.int ((p1 &&& (2147483647 : Int32)) % (3 : Int32))), .unset, .unset, .unset, .unset, .unset] [])) _
    refine XS.iload X0.here hx rfl (hb hby at_8) rfl ?_
    show Steps p.tables e below (s₁.setTop (mkF m 10 #[.val (.int p1), .val (.long q2), .second, .val (.int p3), .val (.int ((p1 &&& (2147483647 : Int32)) % (3 : Int32))), .unset, .unset, .unset, .unset, .unset] [(.int ((p1 &&& (2147483647 : Int32)) % (3 : Int32)))])) _
    refine XS.ifYes X0.here hx rfl (pc0 := 10) (pc' := 21) rfl (hb hby at_10) rfl ((if0 _ _).trans (feq hc10).2) (by decide) (by decide) ?_
    show Steps p.tables e below (s₁.setTop (mkF m 21 #[.val (.int p1), .val (.long q2), .second, .val (.int p3), .val (.int ((p1 &&& (2147483647 : Int32)) % (3 : Int32))), .unset, .unset, .unset, .unset, .unset] [])) _
    refine XS.iload X0.here hx rfl (hb hby at_21) rfl ?_
    show Steps p.tables e below (s₁.setTop (mkF m 23 #[.val (.int p1), .val (.long q2), .second, .val (.int p3), .val (.int ((p1 &&& (2147483647 : Int32)) % (3 : Int32))), .unset, .unset, .unset, .unset, .unset] [(.int ((p1 &&& (2147483647 : Int32)) % (3 : Int32)))])) _
    refine XS.iconst X0.here hx rfl (hb hby at_23) ?_
    show Steps p.tables e below (s₁.setTop (mkF m 24 #[.val (.int p1), .val (.long q2), .second, .val (.int p3), .val (.int ((p1 &&& (2147483647 : Int32)) % (3 : Int32))), .unset, .unset, .unset, .unset, .unset] [(.int (1 : Int32)), (.int ((p1 &&& (2147483647 : Int32)) % (3 : Int32)))])) _
    refine XS.icmpNo X0.here hx rfl (hb hby at_24) rfl (teq hc24).2 ?_
    show Steps p.tables e below (s₁.setTop (mkF m 27 #[.val (.int p1), .val (.long q2), .second, .val (.int p3), .val (.int ((p1 &&& (2147483647 : Int32)) % (3 : Int32))), .unset, .unset, .unset, .unset, .unset] [])) _
    refine st5 _ ?_
    show Steps p.tables e below (T5.setTop (mkF m 30 #[.val (.int p1), .val (.long q2), .second, .val (.int p3), .val (.int ((p1 &&& (2147483647 : Int32)) % (3 : Int32))), .unset, .unset, .unset, .unset, .unset] [(.ref w4)])) _
    refine XS.astore X5.here hx rfl (hb hby at_30) rfl rfl (l' := #[.val (.int p1), .val (.long q2), .second, .val (.int p3), .val (.int ((p1 &&& (2147483647 : Int32)) % (3 : Int32))), .val (.ref w4), .unset, .unset, .unset, .unset]) rfl ?_
    show Steps p.tables e below (T5.setTop (mkF m 32 #[.val (.int p1), .val (.long q2), .second, .val (.int p3), .val (.int ((p1 &&& (2147483647 : Int32)) % (3 : Int32))), .val (.ref w4), .unset, .unset, .unset, .unset] [])) _
    refine XS.goto X5.here hx rfl (pc0 := 32) (pc' := 40) rfl (hb hby at_32) (by decide) (by decide) ?_
    show Steps p.tables e below (T5.setTop (mkF m 40 #[.val (.int p1), .val (.long q2), .second, .val (.int p3), .val (.int ((p1 &&& (2147483647 : Int32)) % (3 : Int32))), .val (.ref w4), .unset, .unset, .unset, .unset] [])) _
    refine XS.iloadN X5.here hx rfl (hb hby at_40) rfl ?_
    show Steps p.tables e below (T5.setTop (mkF m 41 #[.val (.int p1), .val (.long q2), .second, .val (.int p3), .val (.int ((p1 &&& (2147483647 : Int32)) % (3 : Int32))), .val (.ref w4), .unset, .unset, .unset, .unset] [(.int p3)])) _
    refine XS.iconst X5.here hx rfl (hb hby at_41) ?_
    show Steps p.tables e below (T5.setTop (mkF m 42 #[.val (.int p1), .val (.long q2), .second, .val (.int p3), .val (.int ((p1 &&& (2147483647 : Int32)) % (3 : Int32))), .val (.ref w4), .unset, .unset, .unset, .unset] [(.int (1 : Int32)), (.int p3)])) _
    refine XS.iand X5.here hx rfl (hb hby at_42) rfl ?_
    show Steps p.tables e below (T5.setTop (mkF m 43 #[.val (.int p1), .val (.long q2), .second, .val (.int p3), .val (.int ((p1 &&& (2147483647 : Int32)) % (3 : Int32))), .val (.ref w4), .unset, .unset, .unset, .unset] [(.int (p3 &&& (1 : Int32)))])) _
    refine XS.ifYes X5.here hx rfl (pc0 := 43) (pc' := 52) rfl (hb hby at_43) rfl ((if0 _ _).trans (teq hc43).1) (by decide) (by decide) ?_
    show Steps p.tables e below (T5.setTop (mkF m 52 #[.val (.int p1), .val (.long q2), .second, .val (.int p3), .val (.int ((p1 &&& (2147483647 : Int32)) % (3 : Int32))), .val (.ref w4), .unset, .unset, .unset, .unset] [])) _
    refine XS.lloadN X5.here hx rfl (hb hby at_52) rfl ?_
    show Steps p.tables e below (T5.setTop (mkF m 53 #[.val (.int p1), .val (.long q2), .second, .val (.int p3), .val (.int ((p1 &&& (2147483647 : Int32)) % (3 : Int32))), .val (.ref w4), .unset, .unset, .unset, .unset] [(.long q2)])) _
    refine ldc2J X5 hx hown_0 (mvT hZ_0 (hw _ (List.mem_of_getElem? (i := 42) rfl))) rfl (hb hby at_53) ?_
    show Steps p.tables e below (T5.setTop (mkF m 56 #[.val (.int p1), .val (.long q2), .second, .val (.int p3), .val (.int ((p1 &&& (2147483647 : Int32)) % (3 : Int32))), .val (.ref w4), .unset, .unset, .unset, .unset] [(.long (9223372036854775807 : Int64)), (.long q2)])) _
    refine XS.land X5.here hx rfl (hb hby at_56) rfl ?_
    show Steps p.tables e below (T5.setTop (mkF m 57 #[.val (.int p1), .val (.long q2), .second, .val (.int p3), .val (.int ((p1 &&& (2147483647 : Int32)) % (3 : Int32))), .val (.ref w4), .unset, .unset, .unset, .unset] [(.long (q2 &&& (9223372036854775807 : Int64)))])) _
    refine XS.lstore X5.here hx rfl (hb hby at_57) rfl (l' := #[.val (.int p1), .val (.long q2), .second, .val (.int p3), .val (.int ((p1 &&& (2147483647 : Int32)) % (3 : Int32))), .val (.ref w4), .val (.long (q2 &&& (9223372036854775807 : Int64))), .second, .unset, .unset]) rfl ?_
    show Steps p.tables e below (T5.setTop (mkF m 59 #[.val (.int p1), .val (.long q2), .second, .val (.int p3), .val (.int ((p1 &&& (2147483647 : Int32)) % (3 : Int32))), .val (.ref w4), .val (.long (q2 &&& (9223372036854775807 : Int64))), .second, .unset, .unset] [])) _
    refine st6 _ ?_
    show Steps p.tables e below (T6.setTop (mkF m 62 #[.val (.int p1), .val (.long q2), .second, .val (.int p3), .val (.int ((p1 &&& (2147483647 : Int32)) % (3 : Int32))), .val (.ref w4), .val (.long (q2 &&& (9223372036854775807 : Int64))), .second, .unset, .unset] [(.ref b6)])) _
    refine XS.dup X6.here hx rfl (hb hby at_62) rfl rfl ?_
    show Steps p.tables e below (T6.setTop (mkF m 63 #[.val (.int p1), .val (.long q2), .second, .val (.int p3), .val (.int ((p1 &&& (2147483647 : Int32)) % (3 : Int32))), .val (.ref w4), .val (.long (q2 &&& (9223372036854775807 : Int64))), .second, .unset, .unset] [(.ref b6), (.ref b6)])) _
    refine XS.aload X6.here hx rfl (hb hby at_63) rfl rfl ?_
    show Steps p.tables e below (T6.setTop (mkF m 65 #[.val (.int p1), .val (.long q2), .second, .val (.int p3), .val (.int ((p1 &&& (2147483647 : Int32)) % (3 : Int32))), .val (.ref w4), .val (.long (q2 &&& (9223372036854775807 : Int64))), .second, .unset, .unset] [(.ref w4), (.ref b6), (.ref b6)])) _
    refine XS.lload X6.here hx rfl (hb hby at_65) rfl ?_
    show Steps p.tables e below (T6.setTop (mkF m 67 #[.val (.int p1), .val (.long q2), .second, .val (.int p3), .val (.int ((p1 &&& (2147483647 : Int32)) % (3 : Int32))), .val (.ref w4), .val (.long (q2 &&& (9223372036854775807 : Int64))), .second, .unset, .unset] [(.long (q2 &&& (9223372036854775807 : Int64))), (.ref w4), (.ref b6), (.ref b6)])) _
    refine st7.trans ?_
    show Steps p.tables e below (T7.setTop (mkF m 70 #[.val (.int p1), .val (.long q2), .second, .val (.int p3), .val (.int ((p1 &&& (2147483647 : Int32)) % (3 : Int32))), .val (.ref w4), .val (.long (q2 &&& (9223372036854775807 : Int64))), .second, .unset, .unset] [(.ref b6)])) _
    refine XS.astore X7.here hx rfl (hb hby at_70) rfl rfl (l' := #[.val (.int p1), .val (.long q2), .second, .val (.int p3), .val (.int ((p1 &&& (2147483647 : Int32)) % (3 : Int32))), .val (.ref w4), .val (.long (q2 &&& (9223372036854775807 : Int64))), .second, .val (.ref b6), .unset]) rfl ?_
    show Steps p.tables e below (T7.setTop (mkF m 72 #[.val (.int p1), .val (.long q2), .second, .val (.int p3), .val (.int ((p1 &&& (2147483647 : Int32)) % (3 : Int32))), .val (.ref w4), .val (.long (q2 &&& (9223372036854775807 : Int64))), .second, .val (.ref b6), .unset] [])) _
    refine XS.lload X7.here hx rfl (hb hby at_72) rfl ?_
    show Steps p.tables e below (T7.setTop (mkF m 74 #[.val (.int p1), .val (.long q2), .second, .val (.int p3), .val (.int ((p1 &&& (2147483647 : Int32)) % (3 : Int32))), .val (.ref w4), .val (.long (q2 &&& (9223372036854775807 : Int64))), .second, .val (.ref b6), .unset] [(.long (q2 &&& (9223372036854775807 : Int64)))])) _
    refine XS.lconst X7.here hx rfl (hb hby at_74) ?_
    show Steps p.tables e below (T7.setTop (mkF m 75 #[.val (.int p1), .val (.long q2), .second, .val (.int p3), .val (.int ((p1 &&& (2147483647 : Int32)) % (3 : Int32))), .val (.ref w4), .val (.long (q2 &&& (9223372036854775807 : Int64))), .second, .val (.ref b6), .unset] [(.long (0 : Int64)), (.long (q2 &&& (9223372036854775807 : Int64)))])) _
    refine XS.lcmp X7.here hx rfl (hb hby at_75) rfl ?_
    show Steps p.tables e below (T7.setTop (mkF m 76 #[.val (.int p1), .val (.long q2), .second, .val (.int p3), .val (.int ((p1 &&& (2147483647 : Int32)) % (3 : Int32))), .val (.ref w4), .val (.long (q2 &&& (9223372036854775807 : Int64))), .second, .val (.ref b6), .unset] [(.int (lcmpW (q2 &&& (9223372036854775807 : Int64)) (0 : Int64)))])) _
    refine XS.ifYes X7.here hx rfl (pc0 := 76) (pc' := 83) rfl (hb hby at_76) rfl ((if0 _ _).trans (feq hc76).2) (by decide) (by decide) ?_
    show Steps p.tables e below (T7.setTop (mkF m 83 #[.val (.int p1), .val (.long q2), .second, .val (.int p3), .val (.int ((p1 &&& (2147483647 : Int32)) % (3 : Int32))), .val (.ref w4), .val (.long (q2 &&& (9223372036854775807 : Int64))), .second, .val (.ref b6), .unset] [])) _
    refine XS.iconst X7.here hx rfl (hb hby at_83) ?_
    show Steps p.tables e below (T7.setTop (mkF m 84 #[.val (.int p1), .val (.long q2), .second, .val (.int p3), .val (.int ((p1 &&& (2147483647 : Int32)) % (3 : Int32))), .val (.ref w4), .val (.long (q2 &&& (9223372036854775807 : Int64))), .second, .val (.ref b6), .unset] [(.int (0 : Int32))])) _
    refine XS.istore X7.here hx rfl (hb hby at_84) rfl (l' := #[.val (.int p1), .val (.long q2), .second, .val (.int p3), .val (.int ((p1 &&& (2147483647 : Int32)) % (3 : Int32))), .val (.ref w4), .val (.long (q2 &&& (9223372036854775807 : Int64))), .second, .val (.ref b6), .val (.int (0 : Int32))]) rfl ?_
    show Steps p.tables e below (T7.setTop (mkF m 86 #[.val (.int p1), .val (.long q2), .second, .val (.int p3), .val (.int ((p1 &&& (2147483647 : Int32)) % (3 : Int32))), .val (.ref w4), .val (.long (q2 &&& (9223372036854775807 : Int64))), .second, .val (.ref b6), .val (.int (0 : Int32))] [])) _
    refine XS.aload X7.here hx rfl (hb hby at_86) rfl rfl ?_
    show Steps p.tables e below (T7.setTop (mkF m 88 #[.val (.int p1), .val (.long q2), .second, .val (.int p3), .val (.int ((p1 &&& (2147483647 : Int32)) % (3 : Int32))), .val (.ref w4), .val (.long (q2 &&& (9223372036854775807 : Int64))), .second, .val (.ref b6), .val (.int (0 : Int32))] [(.ref b6)])) _
    refine st8.trans ?_
    show Steps p.tables e below (T8.setTop (mkF m 91 #[.val (.int p1), .val (.long q2), .second, .val (.int p3), .val (.int ((p1 &&& (2147483647 : Int32)) % (3 : Int32))), .val (.ref w4), .val (.long (q2 &&& (9223372036854775807 : Int64))), .second, .val (.ref b6), .val (.int (0 : Int32))] [(.int (0 : Int32))])) _
    refine XS.iload X8.here hx rfl (hb hby at_91) rfl ?_
    show Steps p.tables e below (T8.setTop (mkF m 93 #[.val (.int p1), .val (.long q2), .second, .val (.int p3), .val (.int ((p1 &&& (2147483647 : Int32)) % (3 : Int32))), .val (.ref w4), .val (.long (q2 &&& (9223372036854775807 : Int64))), .second, .val (.ref b6), .val (.int (0 : Int32))] [(.int (0 : Int32)), (.int (0 : Int32))])) _
    refine XS.icmpNo X8.here hx rfl (hb hby at_93) rfl (teq (rfl : (0 : Int32) = (0 : Int32))).2 ?_
    show Steps p.tables e below (T8.setTop (mkF m 96 #[.val (.int p1), .val (.long q2), .second, .val (.int p3), .val (.int ((p1 &&& (2147483647 : Int32)) % (3 : Int32))), .val (.ref w4), .val (.long (q2 &&& (9223372036854775807 : Int64))), .second, .val (.ref b6), .val (.int (0 : Int32))] [])) _
    refine XS.iconst X8.here hx rfl (hb hby at_96) ?_
    show Steps p.tables e below (T8.setTop (mkF m 97 #[.val (.int p1), .val (.long q2), .second, .val (.int p3), .val (.int ((p1 &&& (2147483647 : Int32)) % (3 : Int32))), .val (.ref w4), .val (.long (q2 &&& (9223372036854775807 : Int64))), .second, .val (.ref b6), .val (.int (0 : Int32))] [(.int (1 : Int32))])) _
    refine XS.goto X8.here hx rfl (pc0 := 97) (pc' := 101) rfl (hb hby at_97) (by decide) (by decide) ?_
    show Steps p.tables e below (T8.setTop (mkF m 101 #[.val (.int p1), .val (.long q2), .second, .val (.int p3), .val (.int ((p1 &&& (2147483647 : Int32)) % (3 : Int32))), .val (.ref w4), .val (.long (q2 &&& (9223372036854775807 : Int64))), .second, .val (.ref b6), .val (.int (0 : Int32))] [(.int (1 : Int32))])) _
    exact retN X8 hx (t := .boolean) Bd.returns (by simp) (hb hby at_101) hr
  · show Q0 n0 _ T8.heap _
    rw [eq8]
    exact ⟨rfl, N8⟩

set_option maxRecDepth 65536 in
set_option maxHeartbeats 40000000 in
theorem rm0_20 (l : Launch) (Z : State) (a0 : Array Value) (hw : ∀ d ∈ tables_1, d.before a0 Z = true) (ws : List Jvm.Cond) (p1 : Int32) (q2 : Int64) (p3 : Int32) (w4 : Addr) (h0 : Heap) (n0 : Nat) (Z0 : n0 ≤ h0.size) (S_STATEMENT : Sta Z h0 "com/example/albizia/albizia/limits/LimitLevel" "STATEMENT" "Lcom/example/albizia/albizia/limits/LimitLevel;" (.ref w4)) (hc10 : ¬ (((p1 &&& (2147483647 : Int32)) % (3 : Int32)) = (0 : Int32))) (hc24 : ¬ (((p1 &&& (2147483647 : Int32)) % (3 : Int32)) = (1 : Int32))) (hc43 : ¬ ((p3 &&& (1 : Int32)) = (0 : Int32))) :
    MetFree l x (head1 (Jvm.Cond.code x code maxLocals ret :: ws) room_1) (fun a U => a = #[(.int p1), (.long q2), (.int p3)] ∧ Z.Warmed39 U.vm ∧ U.heap = h0) (fun _ _ _ _ _ => True) (fun _ U o U' => ∃ v L, o = .returned v ∧ Q0 n0 v U'.heap L ∧ ReturnedEndW U o U' L room_1.cells room_1.slots) := by
  refine MetFree.of_bodySF (plainFor_of_name pn_0) hisR ?_
  intro p e s m args below meth c s₁ Bd hml0 hP hK
  obtain ⟨rfl, hZ, hh⟩ := hP
  have hx := Bd.exec
  have hby := Bd.bytes
  have hml : c.maxLocals = 10 := hml0
  have hown : s.vm.findClass "com/example/albizia/albizia/limits/LimitIsNonePinLaw" = some m.cls := findClass_of_methodNamed Bd.named
  have hnm := (name_of_methodNamed Bd.named Bd.method).1
  have X0 : Stand p l e room_1 s m #[(.int p1), (.long q2), (.int p3)] below meth c s₁ [] 0 0 := Stand.of_body Bd
  have e0 : s₁.heap = h0 := by rw [← hh, Bd.state]; rfl
  have N0 := Fr.nil n0
  have pre0 : ∀ t, Steps p.tables e below (s₁.setTop (mkF m 0 #[.val (.int p1), .val (.long q2), .second, .val (.int p3), .unset, .unset, .unset, .unset, .unset, .unset] [])) t → Steps p.tables e below (s₁.setTop (entryFrame m #[(.int p1), (.long q2), (.int p3)] maxLocals)) t := fun t k => castTop (ef_0 m p1 q2 p3) k
  have hZ_0 := hZ
  have hown_0 := hown
  obtain ⟨T5, X5, e5, st5⟩ := getS2 X0 hx hZ hown (host := "") (Or.inl (hw _ (List.mem_of_getElem? (i := 45) rfl))) Via.refl e0 S_STATEMENT (g := (mkF m 35 #[.val (.int p1), .val (.long q2), .second, .val (.int p3), .val (.int ((p1 &&& (2147483647 : Int32)) % (3 : Int32))), .unset, .unset, .unset, .unset, .unset] [])) rfl (hb hby at_35)
  obtain ⟨T6, h6, X6, e6, E6, A6, D6, -, st6⟩ := newO X5 hx hZ hown (hw _ (List.mem_of_getElem? (i := 4) rfl)) (hw _ (List.mem_of_getElem? (i := 5) rfl)) (hw _ (List.mem_of_getElem? (i := 6) rfl)) e5 (g := (mkF m 59 #[.val (.int p1), .val (.long q2), .second, .val (.int p3), .val (.int ((p1 &&& (2147483647 : Int32)) % (3 : Int32))), .val (.ref w4), .val (.long (0 : Int64)), .second, .unset, .unset] [])) rfl (hb hby at_59) (by decide) (by decide)
  obtain ⟨b6, g6⟩ : ∃ z, z = h0.size := ⟨_, rfl⟩      -- the fresh object's address
  rw [← g6] at A6 D6 st6      -- A6 : Exa Z h6 b6 "com/example/albizia/albizia/limits/Limit"; E6 : Ext h0 h6 (carries every older fact: .ext E6)
  have F_level_b6 : Fld Z h6 b6 "com/example/albizia/albizia/limits/Limit" "level" "Lcom/example/albizia/albizia/limits/LimitLevel;" .null := D6 (Or.inr (hw _ (List.mem_of_getElem? (i := 34) rfl))) (ty := (.object "com/example/albizia/albizia/limits/LimitLevel")) (by decide)
  have F_millis_b6 : Fld Z h6 b6 "com/example/albizia/albizia/limits/Limit" "millis" "J" (.long (0 : Int64)) := D6 (Or.inr (hw _ (List.mem_of_getElem? (i := 36) rfl))) (ty := .long) (by decide)
  have E_b6 := A6
  have g_b6 : n0 ≤ b6 := Nat.le_trans Z0 (Nat.le_of_eq g6.symm)
  have sz_b6 : h0.size ≤ b6 := (Nat.le_trans (Keep.refl h0 []).1 (Nat.le_of_eq g6.symm))
  have K6 : Keep h0 h6 [] := (Keep.refl h0 []).ext E6
  -- pc 67: the constructor of com/example/albizia/albizia/limits/Limit by its contract rm1
  obtain ⟨_, _, ⟨T7, L7, k7, n7⟩, -, X7, Sn7, Gn7, ⟨Lc7, hQ7, l7, y7, z7⟩, st7⟩ := X6.specialBackS hx (y := (⟨"com/example/albizia/albizia/limits/Limit", "<init>", "(Lcom/example/albizia/albizia/limits/LimitLevel;J)V"⟩ : MethodName)) rfl hown (mvT hZ (hw _ (List.mem_of_getElem? (i := 7) rfl))) (mvT hZ (hw _ (List.mem_of_getElem? (i := 8) rfl))) (mvT hZ (hw _ (List.mem_of_getElem? (i := 9) rfl))) (by decide) (backOfS (W := 1) (rm1 l Z a0 hw [] b6 w4 (0 : Int64) .null (.long (0 : Int64)) h6 n0 (Nat.le_trans Z0 E6.1) E_b6 F_level_b6 g_b6 F_millis_b6 (by decide)) hZ (hw _ (List.mem_of_getElem? (i := 9) rfl)) (hw _ (List.mem_of_getElem? (i := 6) rfl)) (by decide) (by decide)) (g := (mkF m 67 #[.val (.int p1), .val (.long q2), .second, .val (.int p3), .val (.int ((p1 &&& (2147483647 : Int32)) % (3 : Int32))), .val (.ref w4), .val (.long (0 : Int64)), .second, .unset, .unset] [(.long (0 : Int64)), (.ref w4), (.ref b6), (.ref b6)])) rfl (by rw [hml]; rfl) (Steps.refl _) (a := b6) (argsL := [(.ref w4), (.long (0 : Int64))]) (rest := [(.ref b6)]) (lenOf pd_0_0 rfl) rfl (by show 2 * 0 + _ ≤ _; exact Nat.le_of_eq rfl) (hb hby at_67) (fun _ _ => ⟨rfl, e6, (by decide : 1 + 2 ≤ _), (by decide : 2 + 24 ≤ _)⟩)
  dsimp only [Pt.U, Pt.locs, Pt.cells, Pt.slots] at X7 l7 y7 z7 st7 hQ7
  subst l7 y7 z7
  obtain ⟨rfl, N7q, K1q, E1q, F1q⟩ := hQ7
  have N7 := Fr.app N0 N7q
  have hZ : Z.Warmed39 (s.setVm T7.vm).vm := State.Warmed39.trans (t := s) hZ Sn7.1
  have hown : (s.setVm T7.vm).vm.findClass "com/example/albizia/albizia/limits/LimitIsNonePinLaw" = some m.cls := by rw [show (s.setVm T7.vm).vm = T7.vm from rfl, Sn7.1.alike.findClass]; exact hown
  -- pc 88: com/example/albizia/albizia/limits/Limit.isNone by the contract of the body that the receiver's class selects, rm6
  obtain ⟨cq8, kq8, q8a, q8b, q8c⟩ := isOf hZ rfl E1q
  obtain ⟨_, _, ⟨T8, L8, k8, n8⟩, -, X8, ⟨Lc8, hQ8, l8, y8, z8⟩, st8⟩ := X7.virtualBack hx (y := (⟨"com/example/albizia/albizia/limits/Limit", "isNone", "()Z"⟩ : MethodName)) (z := (⟨"com/example/albizia/albizia/limits/Limit", "isNone", "()Z"⟩ : MethodName)) hown (mvT hZ (hw _ (List.mem_of_getElem? (i := 37) rfl))) (mvT hZ (hw _ (List.mem_of_getElem? (i := 38) rfl))) (notFace_of_selects (args := #[]) (mvT hZ (hw _ (List.mem_of_getElem? (i := 40) rfl)))) (mvT hZ (hw _ (List.mem_of_getElem? (i := 40) rfl))) (mvT hZ (hw _ (List.mem_of_getElem? (i := 39) rfl))) (by decide) (backOf (W := 0) (rm6a l Z a0 hw [] b6 (0 : Int64) T7.heap n0 (Nat.le_trans Z0 (Nat.le_trans E6.1 K1q.1)) F1q (by decide)) hZ (hw _ (List.mem_of_getElem? (i := 41) rfl)) (hw _ (List.mem_of_getElem? (i := 6) rfl)) (by decide) (by decide)) q8a q8c (g := (mkF m 88 #[.val (.int p1), .val (.long q2), .second, .val (.int p3), .val (.int ((p1 &&& (2147483647 : Int32)) % (3 : Int32))), .val (.ref w4), .val (.long (0 : Int64)), .second, .val (.ref b6), .val (.int (1 : Int32))] [(.ref b6)])) rfl (by rw [hml]; rfl) (Steps.refl _) (argsL := []) (rest := []) (lenOf pd_0_3 rfl) rfl (by show 2 * 0 + _ ≤ _; exact Nat.le_of_eq rfl) (hb hby at_88) (fun _ _ => ⟨rfl, rfl, (by decide : 3 + 0 ≤ _), (by decide : 26 + 0 ≤ _)⟩)
  dsimp only [Pt.U, Pt.locs, Pt.cells, Pt.slots] at X8 l8 y8 z8 st8 hQ8
  subst l8 y8 z8
  obtain ⟨rfl, N8q, eq8⟩ := hQ8
  have N8 := Fr.app N7 N8q
  obtain ⟨fs, hr, hrun, hended, hRW⟩ := X8.leaveW Sn7 (Nat.le_of_eq (congrArg (fun hh : Heap => hh.size) eq8.symm)) (v := some (.int (1 : Int32))) (fun h => by rw [Bd.returns] at h; cases h)
  refine ⟨_, _, pre0 _ ?_, hrun, hended, _, _, rfl, ?_, hRW.1, hRW.2.1, hRW.2.2.1, hRW.2.2.2.mono (by decide) (by decide)⟩
  · show Steps p.tables e below (s₁.setTop (mkF m 0 #[.val (.int p1), .val (.long q2), .second, .val (.int p3), .unset, .unset, .unset, .unset, .unset, .unset] [])) _
    refine XS.iloadN X0.here hx rfl (hb hby at_0) rfl ?_
    show Steps p.tables e below (s₁.setTop (mkF m 1 #[.val (.int p1), .val (.long q2), .second, .val (.int p3), .unset, .unset, .unset, .unset, .unset, .unset] [(.int p1)])) _
    refine ldcI X0 hx hown_0 (mvT hZ_0 (hw _ (List.mem_of_getElem? (i := 0) rfl))) rfl (hb hby at_1) ?_
    show Steps p.tables e below (s₁.setTop (mkF m 3 #[.val (.int p1), .val (.long q2), .second, .val (.int p3), .unset, .unset, .unset, .unset, .unset, .unset] [(.int (2147483647 : Int32)), (.int p1)])) _
    refine XS.iand X0.here hx rfl (hb hby at_3) rfl ?_
    show Steps p.tables e below (s₁.setTop (mkF m 4 #[.val (.int p1), .val (.long q2), .second, .val (.int p3), .unset, .unset, .unset, .unset, .unset, .unset] [(.int (p1 &&& (2147483647 : Int32)))])) _
    refine XS.iconst X0.here hx rfl (hb hby at_4) ?_
    show Steps p.tables e below (s₁.setTop (mkF m 5 #[.val (.int p1), .val (.long q2), .second, .val (.int p3), .unset, .unset, .unset, .unset, .unset, .unset] [(.int (3 : Int32)), (.int (p1 &&& (2147483647 : Int32)))])) _
    refine iremM X0 hx rfl (hb hby at_5) rfl (by decide) ?_
    show Steps p.tables e below (s₁.setTop (mkF m 6 #[.val (.int p1), .val (.long q2), .second, .val (.int p3), .unset, .unset, .unset, .unset, .unset, .unset] [(.int ((p1 &&& (2147483647 : Int32)) % (3 : Int32)))])) _
    refine XS.istore X0.here hx rfl (hb hby at_6) rfl (l' := #[.val (.int p1), .val (.long q2), .second, .val (.int p3), .val (.int ((p1 &&& (2147483647 : Int32)) % (3 : Int32))), .unset, .unset, .unset, .unset, .unset]) rfl ?_
    show Steps p.tables e below (s₁.setTop (mkF m 8 #[.val (.int p1), .val (.long q2), .second, .val (.int p3), .val (.int ((p1 &&& (2147483647 : Int32)) % (3 : Int32))), .unset, .unset, .unset, .unset, .unset] [])) _
    refine XS.iload X0.here hx rfl (hb hby at_8) rfl ?_
    show Steps p.tables e below (s₁.setTop (mkF m 10 #[.val (.int p1), .val (.long q2), .second, .val (.int p3), .val (.int ((p1 &&& (2147483647 : Int32)) % (3 : Int32))), .unset, .unset, .unset, .unset, .unset] [(.int ((p1 &&& (2147483647 : Int32)) % (3 : Int32)))])) _
    refine XS.ifYes X0.here hx rfl (pc0 := 10) (pc' := 21) rfl (hb hby at_10) rfl ((if0 _ _).trans (feq hc10).2) (by decide) (by decide) ?_
    show Steps p.tables e below (s₁.setTop (mkF m 21 #[.val (.int p1), .val (.long q2), .second, .val (.int p3), .val (.int ((p1 &&& (2147483647 : Int32)) % (3 : Int32))), .unset, .unset, .unset, .unset, .unset] [])) _
    refine XS.iload X0.here hx rfl (hb hby at_21) rfl ?_
    show Steps p.tables e below (s₁.setTop (mkF m 23 #[.val (.int p1), .val (.long q2), .second, .val (.int p3), .val (.int ((p1 &&& (2147483647 : Int32)) % (3 : Int32))), .unset, .unset, .unset, .unset, .unset] [(.int ((p1 &&& (2147483647 : Int32)) % (3 : Int32)))])) _
    refine XS.iconst X0.here hx rfl (hb hby at_23) ?_
    show Steps p.tables e below (s₁.setTop (mkF m 24 #[.val (.int p1), .val (.long q2), .second, .val (.int p3), .val (.int ((p1 &&& (2147483647 : Int32)) % (3 : Int32))), .unset, .unset, .unset, .unset, .unset] [(.int (1 : Int32)), (.int ((p1 &&& (2147483647 : Int32)) % (3 : Int32)))])) _
    refine XS.icmpYes X0.here hx rfl (pc0 := 24) (pc' := 35) rfl (hb hby at_24) rfl (feq hc24).2 (by decide) (by decide) ?_
    show Steps p.tables e below (s₁.setTop (mkF m 35 #[.val (.int p1), .val (.long q2), .second, .val (.int p3), .val (.int ((p1 &&& (2147483647 : Int32)) % (3 : Int32))), .unset, .unset, .unset, .unset, .unset] [])) _
    refine st5 _ ?_
    show Steps p.tables e below (T5.setTop (mkF m 38 #[.val (.int p1), .val (.long q2), .second, .val (.int p3), .val (.int ((p1 &&& (2147483647 : Int32)) % (3 : Int32))), .unset, .unset, .unset, .unset, .unset] [(.ref w4)])) _
    refine XS.astore X5.here hx rfl (hb hby at_38) rfl rfl (l' := #[.val (.int p1), .val (.long q2), .second, .val (.int p3), .val (.int ((p1 &&& (2147483647 : Int32)) % (3 : Int32))), .val (.ref w4), .unset, .unset, .unset, .unset]) rfl ?_
    show Steps p.tables e below (T5.setTop (mkF m 40 #[.val (.int p1), .val (.long q2), .second, .val (.int p3), .val (.int ((p1 &&& (2147483647 : Int32)) % (3 : Int32))), .val (.ref w4), .unset, .unset, .unset, .unset] [])) _
    refine XS.iloadN X5.here hx rfl (hb hby at_40) rfl ?_
    show Steps p.tables e below (T5.setTop (mkF m 41 #[.val (.int p1), .val (.long q2), .second, .val (.int p3), .val (.int ((p1 &&& (2147483647 : Int32)) % (3 : Int32))), .val (.ref w4), .unset, .unset, .unset, .unset] [(.int p3)])) _
    refine XS.iconst X5.here hx rfl (hb hby at_41) ?_
    show Steps p.tables e below (T5.setTop (mkF m 42 #[.val (.int p1), .val (.long q2), .second, .val (.int p3), .val (.int ((p1 &&& (2147483647 : Int32)) % (3 : Int32))), .val (.ref w4), .unset, .unset, .unset, .unset] [(.int (1 : Int32)), (.int p3)])) _
    refine XS.iand X5.here hx rfl (hb hby at_42) rfl ?_
    show Steps p.tables e below (T5.setTop (mkF m 43 #[.val (.int p1), .val (.long q2), .second, .val (.int p3), .val (.int ((p1 &&& (2147483647 : Int32)) % (3 : Int32))), .val (.ref w4), .unset, .unset, .unset, .unset] [(.int (p3 &&& (1 : Int32)))])) _
    refine XS.ifNo X5.here hx rfl (hb hby at_43) rfl ((if0 _ _).trans (feq hc43).1) ?_
    show Steps p.tables e below (T5.setTop (mkF m 46 #[.val (.int p1), .val (.long q2), .second, .val (.int p3), .val (.int ((p1 &&& (2147483647 : Int32)) % (3 : Int32))), .val (.ref w4), .unset, .unset, .unset, .unset] [])) _
    refine XS.lconst X5.here hx rfl (hb hby at_46) ?_
    show Steps p.tables e below (T5.setTop (mkF m 47 #[.val (.int p1), .val (.long q2), .second, .val (.int p3), .val (.int ((p1 &&& (2147483647 : Int32)) % (3 : Int32))), .val (.ref w4), .unset, .unset, .unset, .unset] [(.long (0 : Int64))])) _
    refine XS.lstore X5.here hx rfl (hb hby at_47) rfl (l' := #[.val (.int p1), .val (.long q2), .second, .val (.int p3), .val (.int ((p1 &&& (2147483647 : Int32)) % (3 : Int32))), .val (.ref w4), .val (.long (0 : Int64)), .second, .unset, .unset]) rfl ?_
    show Steps p.tables e below (T5.setTop (mkF m 49 #[.val (.int p1), .val (.long q2), .second, .val (.int p3), .val (.int ((p1 &&& (2147483647 : Int32)) % (3 : Int32))), .val (.ref w4), .val (.long (0 : Int64)), .second, .unset, .unset] [])) _
    refine XS.goto X5.here hx rfl (pc0 := 49) (pc' := 59) rfl (hb hby at_49) (by decide) (by decide) ?_
    show Steps p.tables e below (T5.setTop (mkF m 59 #[.val (.int p1), .val (.long q2), .second, .val (.int p3), .val (.int ((p1 &&& (2147483647 : Int32)) % (3 : Int32))), .val (.ref w4), .val (.long (0 : Int64)), .second, .unset, .unset] [])) _
    refine st6 _ ?_
    show Steps p.tables e below (T6.setTop (mkF m 62 #[.val (.int p1), .val (.long q2), .second, .val (.int p3), .val (.int ((p1 &&& (2147483647 : Int32)) % (3 : Int32))), .val (.ref w4), .val (.long (0 : Int64)), .second, .unset, .unset] [(.ref b6)])) _
    refine XS.dup X6.here hx rfl (hb hby at_62) rfl rfl ?_
    show Steps p.tables e below (T6.setTop (mkF m 63 #[.val (.int p1), .val (.long q2), .second, .val (.int p3), .val (.int ((p1 &&& (2147483647 : Int32)) % (3 : Int32))), .val (.ref w4), .val (.long (0 : Int64)), .second, .unset, .unset] [(.ref b6), (.ref b6)])) _
    refine XS.aload X6.here hx rfl (hb hby at_63) rfl rfl ?_
    show Steps p.tables e below (T6.setTop (mkF m 65 #[.val (.int p1), .val (.long q2), .second, .val (.int p3), .val (.int ((p1 &&& (2147483647 : Int32)) % (3 : Int32))), .val (.ref w4), .val (.long (0 : Int64)), .second, .unset, .unset] [(.ref w4), (.ref b6), (.ref b6)])) _
    refine XS.lload X6.here hx rfl (hb hby at_65) rfl ?_
    show Steps p.tables e below (T6.setTop (mkF m 67 #[.val (.int p1), .val (.long q2), .second, .val (.int p3), .val (.int ((p1 &&& (2147483647 : Int32)) % (3 : Int32))), .val (.ref w4), .val (.long (0 : Int64)), .second, .unset, .unset] [(.long (0 : Int64)), (.ref w4), (.ref b6), (.ref b6)])) _
    refine st7.trans ?_
    show Steps p.tables e below (T7.setTop (mkF m 70 #[.val (.int p1), .val (.long q2), .second, .val (.int p3), .val (.int ((p1 &&& (2147483647 : Int32)) % (3 : Int32))), .val (.ref w4), .val (.long (0 : Int64)), .second, .unset, .unset] [(.ref b6)])) _
    refine XS.astore X7.here hx rfl (hb hby at_70) rfl rfl (l' := #[.val (.int p1), .val (.long q2), .second, .val (.int p3), .val (.int ((p1 &&& (2147483647 : Int32)) % (3 : Int32))), .val (.ref w4), .val (.long (0 : Int64)), .second, .val (.ref b6), .unset]) rfl ?_
    show Steps p.tables e below (T7.setTop (mkF m 72 #[.val (.int p1), .val (.long q2), .second, .val (.int p3), .val (.int ((p1 &&& (2147483647 : Int32)) % (3 : Int32))), .val (.ref w4), .val (.long (0 : Int64)), .second, .val (.ref b6), .unset] [])) _
    refine XS.lload X7.here hx rfl (hb hby at_72) rfl ?_
    show Steps p.tables e below (T7.setTop (mkF m 74 #[.val (.int p1), .val (.long q2), .second, .val (.int p3), .val (.int ((p1 &&& (2147483647 : Int32)) % (3 : Int32))), .val (.ref w4), .val (.long (0 : Int64)), .second, .val (.ref b6), .unset] [(.long (0 : Int64))])) _
    refine XS.lconst X7.here hx rfl (hb hby at_74) ?_
    show Steps p.tables e below (T7.setTop (mkF m 75 #[.val (.int p1), .val (.long q2), .second, .val (.int p3), .val (.int ((p1 &&& (2147483647 : Int32)) % (3 : Int32))), .val (.ref w4), .val (.long (0 : Int64)), .second, .val (.ref b6), .unset] [(.long (0 : Int64)), (.long (0 : Int64))])) _
    refine XS.lcmp X7.here hx rfl (hb hby at_75) rfl ?_
    show Steps p.tables e below (T7.setTop (mkF m 76 #[.val (.int p1), .val (.long q2), .second, .val (.int p3), .val (.int ((p1 &&& (2147483647 : Int32)) % (3 : Int32))), .val (.ref w4), .val (.long (0 : Int64)), .second, .val (.ref b6), .unset] [(.int (lcmpW (0 : Int64) (0 : Int64)))])) _
    refine XS.ifNo X7.here hx rfl (hb hby at_76) rfl ((if0 _ _).trans (teq (by decide : (lcmpW (0 : Int64) (0 : Int64)) = (0 : Int32))).2) ?_
    show Steps p.tables e below (T7.setTop (mkF m 79 #[.val (.int p1), .val (.long q2), .second, .val (.int p3), .val (.int ((p1 &&& (2147483647 : Int32)) % (3 : Int32))), .val (.ref w4), .val (.long (0 : Int64)), .second, .val (.ref b6), .unset] [])) _
    refine XS.iconst X7.here hx rfl (hb hby at_79) ?_
    show Steps p.tables e below (T7.setTop (mkF m 80 #[.val (.int p1), .val (.long q2), .second, .val (.int p3), .val (.int ((p1 &&& (2147483647 : Int32)) % (3 : Int32))), .val (.ref w4), .val (.long (0 : Int64)), .second, .val (.ref b6), .unset] [(.int (1 : Int32))])) _
    refine XS.goto X7.here hx rfl (pc0 := 80) (pc' := 84) rfl (hb hby at_80) (by decide) (by decide) ?_
    show Steps p.tables e below (T7.setTop (mkF m 84 #[.val (.int p1), .val (.long q2), .second, .val (.int p3), .val (.int ((p1 &&& (2147483647 : Int32)) % (3 : Int32))), .val (.ref w4), .val (.long (0 : Int64)), .second, .val (.ref b6), .unset] [(.int (1 : Int32))])) _
    refine XS.istore X7.here hx rfl (hb hby at_84) rfl (l' := #[.val (.int p1), .val (.long q2), .second, .val (.int p3), .val (.int ((p1 &&& (2147483647 : Int32)) % (3 : Int32))), .val (.ref w4), .val (.long (0 : Int64)), .second, .val (.ref b6), .val (.int (1 : Int32))]) rfl ?_
    show Steps p.tables e below (T7.setTop (mkF m 86 #[.val (.int p1), .val (.long q2), .second, .val (.int p3), .val (.int ((p1 &&& (2147483647 : Int32)) % (3 : Int32))), .val (.ref w4), .val (.long (0 : Int64)), .second, .val (.ref b6), .val (.int (1 : Int32))] [])) _
    refine XS.aload X7.here hx rfl (hb hby at_86) rfl rfl ?_
    show Steps p.tables e below (T7.setTop (mkF m 88 #[.val (.int p1), .val (.long q2), .second, .val (.int p3), .val (.int ((p1 &&& (2147483647 : Int32)) % (3 : Int32))), .val (.ref w4), .val (.long (0 : Int64)), .second, .val (.ref b6), .val (.int (1 : Int32))] [(.ref b6)])) _
    refine st8.trans ?_
    show Steps p.tables e below (T8.setTop (mkF m 91 #[.val (.int p1), .val (.long q2), .second, .val (.int p3), .val (.int ((p1 &&& (2147483647 : Int32)) % (3 : Int32))), .val (.ref w4), .val (.long (0 : Int64)), .second, .val (.ref b6), .val (.int (1 : Int32))] [(.int (1 : Int32))])) _
    refine XS.iload X8.here hx rfl (hb hby at_91) rfl ?_
    show Steps p.tables e below (T8.setTop (mkF m 93 #[.val (.int p1), .val (.long q2), .second, .val (.int p3), .val (.int ((p1 &&& (2147483647 : Int32)) % (3 : Int32))), .val (.ref w4), .val (.long (0 : Int64)), .second, .val (.ref b6), .val (.int (1 : Int32))] [(.int (1 : Int32)), (.int (1 : Int32))])) _
    refine XS.icmpNo X8.here hx rfl (hb hby at_93) rfl (teq (rfl : (1 : Int32) = (1 : Int32))).2 ?_
    show Steps p.tables e below (T8.setTop (mkF m 96 #[.val (.int p1), .val (.long q2), .second, .val (.int p3), .val (.int ((p1 &&& (2147483647 : Int32)) % (3 : Int32))), .val (.ref w4), .val (.long (0 : Int64)), .second, .val (.ref b6), .val (.int (1 : Int32))] [])) _
    refine XS.iconst X8.here hx rfl (hb hby at_96) ?_
    show Steps p.tables e below (T8.setTop (mkF m 97 #[.val (.int p1), .val (.long q2), .second, .val (.int p3), .val (.int ((p1 &&& (2147483647 : Int32)) % (3 : Int32))), .val (.ref w4), .val (.long (0 : Int64)), .second, .val (.ref b6), .val (.int (1 : Int32))] [(.int (1 : Int32))])) _
    refine XS.goto X8.here hx rfl (pc0 := 97) (pc' := 101) rfl (hb hby at_97) (by decide) (by decide) ?_
    show Steps p.tables e below (T8.setTop (mkF m 101 #[.val (.int p1), .val (.long q2), .second, .val (.int p3), .val (.int ((p1 &&& (2147483647 : Int32)) % (3 : Int32))), .val (.ref w4), .val (.long (0 : Int64)), .second, .val (.ref b6), .val (.int (1 : Int32))] [(.int (1 : Int32))])) _
    exact retN X8 hx (t := .boolean) Bd.returns (by simp) (hb hby at_101) hr
  · show Q0 n0 _ T8.heap _
    rw [eq8]
    exact ⟨rfl, N8⟩

set_option maxRecDepth 65536 in
set_option maxHeartbeats 40000000 in
theorem rm0_21 (l : Launch) (Z : State) (a0 : Array Value) (hw : ∀ d ∈ tables_1, d.before a0 Z = true) (ws : List Jvm.Cond) (p1 : Int32) (q2 : Int64) (p3 : Int32) (w4 : Addr) (h0 : Heap) (n0 : Nat) (Z0 : n0 ≤ h0.size) (S_STATEMENT : Sta Z h0 "com/example/albizia/albizia/limits/LimitLevel" "STATEMENT" "Lcom/example/albizia/albizia/limits/LimitLevel;" (.ref w4)) (hc10 : ¬ (((p1 &&& (2147483647 : Int32)) % (3 : Int32)) = (0 : Int32))) (hc24 : ¬ (((p1 &&& (2147483647 : Int32)) % (3 : Int32)) = (1 : Int32))) (hc43 : (p3 &&& (1 : Int32)) = (0 : Int32)) (hc76 : (lcmpW (q2 &&& (9223372036854775807 : Int64)) (0 : Int64)) = (0 : Int32)) :
    MetFree l x (head1 (Jvm.Cond.code x code maxLocals ret :: ws) room_1) (fun a U => a = #[(.int p1), (.long q2), (.int p3)] ∧ Z.Warmed39 U.vm ∧ U.heap = h0) (fun _ _ _ _ _ => True) (fun _ U o U' => ∃ v L, o = .returned v ∧ Q0 n0 v U'.heap L ∧ ReturnedEndW U o U' L room_1.cells room_1.slots) := by
  refine MetFree.of_bodySF (plainFor_of_name pn_0) hisR ?_
  intro p e s m args below meth c s₁ Bd hml0 hP hK
  obtain ⟨rfl, hZ, hh⟩ := hP
  have hx := Bd.exec
  have hby := Bd.bytes
  have hml : c.maxLocals = 10 := hml0
  have hown : s.vm.findClass "com/example/albizia/albizia/limits/LimitIsNonePinLaw" = some m.cls := findClass_of_methodNamed Bd.named
  have hnm := (name_of_methodNamed Bd.named Bd.method).1
  have X0 : Stand p l e room_1 s m #[(.int p1), (.long q2), (.int p3)] below meth c s₁ [] 0 0 := Stand.of_body Bd
  have e0 : s₁.heap = h0 := by rw [← hh, Bd.state]; rfl
  have N0 := Fr.nil n0
  have pre0 : ∀ t, Steps p.tables e below (s₁.setTop (mkF m 0 #[.val (.int p1), .val (.long q2), .second, .val (.int p3), .unset, .unset, .unset, .unset, .unset, .unset] [])) t → Steps p.tables e below (s₁.setTop (entryFrame m #[(.int p1), (.long q2), (.int p3)] maxLocals)) t := fun t k => castTop (ef_0 m p1 q2 p3) k
  have hZ_0 := hZ
  have hown_0 := hown
  obtain ⟨T5, X5, e5, st5⟩ := getS2 X0 hx hZ hown (host := "") (Or.inl (hw _ (List.mem_of_getElem? (i := 45) rfl))) Via.refl e0 S_STATEMENT (g := (mkF m 35 #[.val (.int p1), .val (.long q2), .second, .val (.int p3), .val (.int ((p1 &&& (2147483647 : Int32)) % (3 : Int32))), .unset, .unset, .unset, .unset, .unset] [])) rfl (hb hby at_35)
  obtain ⟨T6, h6, X6, e6, E6, A6, D6, -, st6⟩ := newO X5 hx hZ hown (hw _ (List.mem_of_getElem? (i := 4) rfl)) (hw _ (List.mem_of_getElem? (i := 5) rfl)) (hw _ (List.mem_of_getElem? (i := 6) rfl)) e5 (g := (mkF m 59 #[.val (.int p1), .val (.long q2), .second, .val (.int p3), .val (.int ((p1 &&& (2147483647 : Int32)) % (3 : Int32))), .val (.ref w4), .val (.long (q2 &&& (9223372036854775807 : Int64))), .second, .unset, .unset] [])) rfl (hb hby at_59) (by decide) (by decide)
  obtain ⟨b6, g6⟩ : ∃ z, z = h0.size := ⟨_, rfl⟩      -- the fresh object's address
  rw [← g6] at A6 D6 st6      -- A6 : Exa Z h6 b6 "com/example/albizia/albizia/limits/Limit"; E6 : Ext h0 h6 (carries every older fact: .ext E6)
  have F_level_b6 : Fld Z h6 b6 "com/example/albizia/albizia/limits/Limit" "level" "Lcom/example/albizia/albizia/limits/LimitLevel;" .null := D6 (Or.inr (hw _ (List.mem_of_getElem? (i := 34) rfl))) (ty := (.object "com/example/albizia/albizia/limits/LimitLevel")) (by decide)
  have F_millis_b6 : Fld Z h6 b6 "com/example/albizia/albizia/limits/Limit" "millis" "J" (.long (0 : Int64)) := D6 (Or.inr (hw _ (List.mem_of_getElem? (i := 36) rfl))) (ty := .long) (by decide)
  have E_b6 := A6
  have g_b6 : n0 ≤ b6 := Nat.le_trans Z0 (Nat.le_of_eq g6.symm)
  have sz_b6 : h0.size ≤ b6 := (Nat.le_trans (Keep.refl h0 []).1 (Nat.le_of_eq g6.symm))
  have K6 : Keep h0 h6 [] := (Keep.refl h0 []).ext E6
  -- pc 67: the constructor of com/example/albizia/albizia/limits/Limit by its contract rm1
  obtain ⟨_, _, ⟨T7, L7, k7, n7⟩, -, X7, Sn7, Gn7, ⟨Lc7, hQ7, l7, y7, z7⟩, st7⟩ := X6.specialBackS hx (y := (⟨"com/example/albizia/albizia/limits/Limit", "<init>", "(Lcom/example/albizia/albizia/limits/LimitLevel;J)V"⟩ : MethodName)) rfl hown (mvT hZ (hw _ (List.mem_of_getElem? (i := 7) rfl))) (mvT hZ (hw _ (List.mem_of_getElem? (i := 8) rfl))) (mvT hZ (hw _ (List.mem_of_getElem? (i := 9) rfl))) (by decide) (backOfS (W := 1) (rm1 l Z a0 hw [] b6 w4 (q2 &&& (9223372036854775807 : Int64)) .null (.long (0 : Int64)) h6 n0 (Nat.le_trans Z0 E6.1) E_b6 F_level_b6 g_b6 F_millis_b6 (own_nn q2)) hZ (hw _ (List.mem_of_getElem? (i := 9) rfl)) (hw _ (List.mem_of_getElem? (i := 6) rfl)) (by decide) (by decide)) (g := (mkF m 67 #[.val (.int p1), .val (.long q2), .second, .val (.int p3), .val (.int ((p1 &&& (2147483647 : Int32)) % (3 : Int32))), .val (.ref w4), .val (.long (q2 &&& (9223372036854775807 : Int64))), .second, .unset, .unset] [(.long (q2 &&& (9223372036854775807 : Int64))), (.ref w4), (.ref b6), (.ref b6)])) rfl (by rw [hml]; rfl) (Steps.refl _) (a := b6) (argsL := [(.ref w4), (.long (q2 &&& (9223372036854775807 : Int64)))]) (rest := [(.ref b6)]) (lenOf pd_0_0 rfl) rfl (by show 2 * 0 + _ ≤ _; exact Nat.le_of_eq rfl) (hb hby at_67) (fun _ _ => ⟨rfl, e6, (by decide : 1 + 2 ≤ _), (by decide : 2 + 24 ≤ _)⟩)
  dsimp only [Pt.U, Pt.locs, Pt.cells, Pt.slots] at X7 l7 y7 z7 st7 hQ7
  subst l7 y7 z7
  obtain ⟨rfl, N7q, K1q, E1q, F1q⟩ := hQ7
  have N7 := Fr.app N0 N7q
  have hZ : Z.Warmed39 (s.setVm T7.vm).vm := State.Warmed39.trans (t := s) hZ Sn7.1
  have hown : (s.setVm T7.vm).vm.findClass "com/example/albizia/albizia/limits/LimitIsNonePinLaw" = some m.cls := by rw [show (s.setVm T7.vm).vm = T7.vm from rfl, Sn7.1.alike.findClass]; exact hown
  -- pc 88: com/example/albizia/albizia/limits/Limit.isNone by the contract of the body that the receiver's class selects, rm6
  obtain ⟨cq8, kq8, q8a, q8b, q8c⟩ := isOf hZ rfl E1q
  obtain ⟨_, _, ⟨T8, L8, k8, n8⟩, -, X8, ⟨Lc8, hQ8, l8, y8, z8⟩, st8⟩ := X7.virtualBack hx (y := (⟨"com/example/albizia/albizia/limits/Limit", "isNone", "()Z"⟩ : MethodName)) (z := (⟨"com/example/albizia/albizia/limits/Limit", "isNone", "()Z"⟩ : MethodName)) hown (mvT hZ (hw _ (List.mem_of_getElem? (i := 37) rfl))) (mvT hZ (hw _ (List.mem_of_getElem? (i := 38) rfl))) (notFace_of_selects (args := #[]) (mvT hZ (hw _ (List.mem_of_getElem? (i := 40) rfl)))) (mvT hZ (hw _ (List.mem_of_getElem? (i := 40) rfl))) (mvT hZ (hw _ (List.mem_of_getElem? (i := 39) rfl))) (by decide) (backOf (W := 0) (rm6a l Z a0 hw [] b6 (q2 &&& (9223372036854775807 : Int64)) T7.heap n0 (Nat.le_trans Z0 (Nat.le_trans E6.1 K1q.1)) F1q hc76) hZ (hw _ (List.mem_of_getElem? (i := 41) rfl)) (hw _ (List.mem_of_getElem? (i := 6) rfl)) (by decide) (by decide)) q8a q8c (g := (mkF m 88 #[.val (.int p1), .val (.long q2), .second, .val (.int p3), .val (.int ((p1 &&& (2147483647 : Int32)) % (3 : Int32))), .val (.ref w4), .val (.long (q2 &&& (9223372036854775807 : Int64))), .second, .val (.ref b6), .val (.int (1 : Int32))] [(.ref b6)])) rfl (by rw [hml]; rfl) (Steps.refl _) (argsL := []) (rest := []) (lenOf pd_0_3 rfl) rfl (by show 2 * 0 + _ ≤ _; exact Nat.le_of_eq rfl) (hb hby at_88) (fun _ _ => ⟨rfl, rfl, (by decide : 3 + 0 ≤ _), (by decide : 26 + 0 ≤ _)⟩)
  dsimp only [Pt.U, Pt.locs, Pt.cells, Pt.slots] at X8 l8 y8 z8 st8 hQ8
  subst l8 y8 z8
  obtain ⟨rfl, N8q, eq8⟩ := hQ8
  have N8 := Fr.app N7 N8q
  obtain ⟨fs, hr, hrun, hended, hRW⟩ := X8.leaveW Sn7 (Nat.le_of_eq (congrArg (fun hh : Heap => hh.size) eq8.symm)) (v := some (.int (1 : Int32))) (fun h => by rw [Bd.returns] at h; cases h)
  refine ⟨_, _, pre0 _ ?_, hrun, hended, _, _, rfl, ?_, hRW.1, hRW.2.1, hRW.2.2.1, hRW.2.2.2.mono (by decide) (by decide)⟩
  · show Steps p.tables e below (s₁.setTop (mkF m 0 #[.val (.int p1), .val (.long q2), .second, .val (.int p3), .unset, .unset, .unset, .unset, .unset, .unset] [])) _
    refine XS.iloadN X0.here hx rfl (hb hby at_0) rfl ?_
    show Steps p.tables e below (s₁.setTop (mkF m 1 #[.val (.int p1), .val (.long q2), .second, .val (.int p3), .unset, .unset, .unset, .unset, .unset, .unset] [(.int p1)])) _
    refine ldcI X0 hx hown_0 (mvT hZ_0 (hw _ (List.mem_of_getElem? (i := 0) rfl))) rfl (hb hby at_1) ?_
    show Steps p.tables e below (s₁.setTop (mkF m 3 #[.val (.int p1), .val (.long q2), .second, .val (.int p3), .unset, .unset, .unset, .unset, .unset, .unset] [(.int (2147483647 : Int32)), (.int p1)])) _
    refine XS.iand X0.here hx rfl (hb hby at_3) rfl ?_
    show Steps p.tables e below (s₁.setTop (mkF m 4 #[.val (.int p1), .val (.long q2), .second, .val (.int p3), .unset, .unset, .unset, .unset, .unset, .unset] [(.int (p1 &&& (2147483647 : Int32)))])) _
    refine XS.iconst X0.here hx rfl (hb hby at_4) ?_
    show Steps p.tables e below (s₁.setTop (mkF m 5 #[.val (.int p1), .val (.long q2), .second, .val (.int p3), .unset, .unset, .unset, .unset, .unset, .unset] [(.int (3 : Int32)), (.int (p1 &&& (2147483647 : Int32)))])) _
    refine iremM X0 hx rfl (hb hby at_5) rfl (by decide) ?_
    show Steps p.tables e below (s₁.setTop (mkF m 6 #[.val (.int p1), .val (.long q2), .second, .val (.int p3), .unset, .unset, .unset, .unset, .unset, .unset] [(.int ((p1 &&& (2147483647 : Int32)) % (3 : Int32)))])) _
    refine XS.istore X0.here hx rfl (hb hby at_6) rfl (l' := #[.val (.int p1), .val (.long q2), .second, .val (.int p3), .val (.int ((p1 &&& (2147483647 : Int32)) % (3 : Int32))), .unset, .unset, .unset, .unset, .unset]) rfl ?_
    show Steps p.tables e below (s₁.setTop (mkF m 8 #[.val (.int p1), .val (.long q2), .second, .val (.int p3), .val (.int ((p1 &&& (2147483647 : Int32)) % (3 : Int32))), .unset, .unset, .unset, .unset, .unset] [])) _
    refine XS.iload X0.here hx rfl (hb hby at_8) rfl ?_
    show Steps p.tables e below (s₁.setTop (mkF m 10 #[.val (.int p1), .val (.long q2), .second, .val (.int p3), .val (.int ((p1 &&& (2147483647 : Int32)) % (3 : Int32))), .unset, .unset, .unset, .unset, .unset] [(.int ((p1 &&& (2147483647 : Int32)) % (3 : Int32)))])) _
    refine XS.ifYes X0.here hx rfl (pc0 := 10) (pc' := 21) rfl (hb hby at_10) rfl ((if0 _ _).trans (feq hc10).2) (by decide) (by decide) ?_
    show Steps p.tables e below (s₁.setTop (mkF m 21 #[.val (.int p1), .val (.long q2), .second, .val (.int p3), .val (.int ((p1 &&& (2147483647 : Int32)) % (3 : Int32))), .unset, .unset, .unset, .unset, .unset] [])) _
    refine XS.iload X0.here hx rfl (hb hby at_21) rfl ?_
    show Steps p.tables e below (s₁.setTop (mkF m 23 #[.val (.int p1), .val (.long q2), .second, .val (.int p3), .val (.int ((p1 &&& (2147483647 : Int32)) % (3 : Int32))), .unset, .unset, .unset, .unset, .unset] [(.int ((p1 &&& (2147483647 : Int32)) % (3 : Int32)))])) _
    refine XS.iconst X0.here hx rfl (hb hby at_23) ?_
    show Steps p.tables e below (s₁.setTop (mkF m 24 #[.val (.int p1), .val (.long q2), .second, .val (.int p3), .val (.int ((p1 &&& (2147483647 : Int32)) % (3 : Int32))), .unset, .unset, .unset, .unset, .unset] [(.int (1 : Int32)), (.int ((p1 &&& (2147483647 : Int32)) % (3 : Int32)))])) _
    refine XS.icmpYes X0.here hx rfl (pc0 := 24) (pc' := 35) rfl (hb hby at_24) rfl (feq hc24).2 (by decide) (by decide) ?_
    show Steps p.tables e below (s₁.setTop (mkF m 35 #[.val (.int p1), .val (.long q2), .second, .val (.int p3), .val (.int ((p1 &&& (2147483647 : Int32)) % (3 : Int32))), .unset, .unset, .unset, .unset, .unset] [])) _
    refine st5 _ ?_
    show Steps p.tables e below (T5.setTop (mkF m 38 #[.val (.int p1), .val (.long q2), .second, .val (.int p3), .val (.int ((p1 &&& (2147483647 : Int32)) % (3 : Int32))), .unset, .unset, .unset, .unset, .unset] [(.ref w4)])) _
    refine XS.astore X5.here hx rfl (hb hby at_38) rfl rfl (l' := #[.val (.int p1), .val (.long q2), .second, .val (.int p3), .val (.int ((p1 &&& (2147483647 : Int32)) % (3 : Int32))), .val (.ref w4), .unset, .unset, .unset, .unset]) rfl ?_
    show Steps p.tables e below (T5.setTop (mkF m 40 #[.val (.int p1), .val (.long q2), .second, .val (.int p3), .val (.int ((p1 &&& (2147483647 : Int32)) % (3 : Int32))), .val (.ref w4), .unset, .unset, .unset, .unset] [])) _
    refine XS.iloadN X5.here hx rfl (hb hby at_40) rfl ?_
    show Steps p.tables e below (T5.setTop (mkF m 41 #[.val (.int p1), .val (.long q2), .second, .val (.int p3), .val (.int ((p1 &&& (2147483647 : Int32)) % (3 : Int32))), .val (.ref w4), .unset, .unset, .unset, .unset] [(.int p3)])) _
    refine XS.iconst X5.here hx rfl (hb hby at_41) ?_
    show Steps p.tables e below (T5.setTop (mkF m 42 #[.val (.int p1), .val (.long q2), .second, .val (.int p3), .val (.int ((p1 &&& (2147483647 : Int32)) % (3 : Int32))), .val (.ref w4), .unset, .unset, .unset, .unset] [(.int (1 : Int32)), (.int p3)])) _
    refine XS.iand X5.here hx rfl (hb hby at_42) rfl ?_
    show Steps p.tables e below (T5.setTop (mkF m 43 #[.val (.int p1), .val (.long q2), .second, .val (.int p3), .val (.int ((p1 &&& (2147483647 : Int32)) % (3 : Int32))), .val (.ref w4), .unset, .unset, .unset, .unset] [(.int (p3 &&& (1 : Int32)))])) _
    refine XS.ifYes X5.here hx rfl (pc0 := 43) (pc' := 52) rfl (hb hby at_43) rfl ((if0 _ _).trans (teq hc43).1) (by decide) (by decide) ?_
    show Steps p.tables e below (T5.setTop (mkF m 52 #[.val (.int p1), .val (.long q2), .second, .val (.int p3), .val (.int ((p1 &&& (2147483647 : Int32)) % (3 : Int32))), .val (.ref w4), .unset, .unset, .unset, .unset] [])) _
    refine XS.lloadN X5.here hx rfl (hb hby at_52) rfl ?_
    show Steps p.tables e below (T5.setTop (mkF m 53 #[.val (.int p1), .val (.long q2), .second, .val (.int p3), .val (.int ((p1 &&& (2147483647 : Int32)) % (3 : Int32))), .val (.ref w4), .unset, .unset, .unset, .unset] [(.long q2)])) _
    refine ldc2J X5 hx hown_0 (mvT hZ_0 (hw _ (List.mem_of_getElem? (i := 42) rfl))) rfl (hb hby at_53) ?_
    show Steps p.tables e below (T5.setTop (mkF m 56 #[.val (.int p1), .val (.long q2), .second, .val (.int p3), .val (.int ((p1 &&& (2147483647 : Int32)) % (3 : Int32))), .val (.ref w4), .unset, .unset, .unset, .unset] [(.long (9223372036854775807 : Int64)), (.long q2)])) _
    refine XS.land X5.here hx rfl (hb hby at_56) rfl ?_
    show Steps p.tables e below (T5.setTop (mkF m 57 #[.val (.int p1), .val (.long q2), .second, .val (.int p3), .val (.int ((p1 &&& (2147483647 : Int32)) % (3 : Int32))), .val (.ref w4), .unset, .unset, .unset, .unset] [(.long (q2 &&& (9223372036854775807 : Int64)))])) _
    refine XS.lstore X5.here hx rfl (hb hby at_57) rfl (l' := #[.val (.int p1), .val (.long q2), .second, .val (.int p3), .val (.int ((p1 &&& (2147483647 : Int32)) % (3 : Int32))), .val (.ref w4), .val (.long (q2 &&& (9223372036854775807 : Int64))), .second, .unset, .unset]) rfl ?_
    show Steps p.tables e below (T5.setTop (mkF m 59 #[.val (.int p1), .val (.long q2), .second, .val (.int p3), .val (.int ((p1 &&& (2147483647 : Int32)) % (3 : Int32))), .val (.ref w4), .val (.long (q2 &&& (9223372036854775807 : Int64))), .second, .unset, .unset] [])) _
    refine st6 _ ?_
    show Steps p.tables e below (T6.setTop (mkF m 62 #[.val (.int p1), .val (.long q2), .second, .val (.int p3), .val (.int ((p1 &&& (2147483647 : Int32)) % (3 : Int32))), .val (.ref w4), .val (.long (q2 &&& (9223372036854775807 : Int64))), .second, .unset, .unset] [(.ref b6)])) _
    refine XS.dup X6.here hx rfl (hb hby at_62) rfl rfl ?_
    show Steps p.tables e below (T6.setTop (mkF m 63 #[.val (.int p1), .val (.long q2), .second, .val (.int p3), .val (.int ((p1 &&& (2147483647 : Int32)) % (3 : Int32))), .val (.ref w4), .val (.long (q2 &&& (9223372036854775807 : Int64))), .second, .unset, .unset] [(.ref b6), (.ref b6)])) _
    refine XS.aload X6.here hx rfl (hb hby at_63) rfl rfl ?_
    show Steps p.tables e below (T6.setTop (mkF m 65 #[.val (.int p1), .val (.long q2), .second, .val (.int p3), .val (.int ((p1 &&& (2147483647 : Int32)) % (3 : Int32))), .val (.ref w4), .val (.long (q2 &&& (9223372036854775807 : Int64))), .second, .unset, .unset] [(.ref w4), (.ref b6), (.ref b6)])) _
    refine XS.lload X6.here hx rfl (hb hby at_65) rfl ?_
    show Steps p.tables e below (T6.setTop (mkF m 67 #[.val (.int p1), .val (.long q2), .second, .val (.int p3), .val (.int ((p1 &&& (2147483647 : Int32)) % (3 : Int32))), .val (.ref w4), .val (.long (q2 &&& (9223372036854775807 : Int64))), .second, .unset, .unset] [(.long (q2 &&& (9223372036854775807 : Int64))), (.ref w4), (.ref b6), (.ref b6)])) _
    refine st7.trans ?_
    show Steps p.tables e below (T7.setTop (mkF m 70 #[.val (.int p1), .val (.long q2), .second, .val (.int p3), .val (.int ((p1 &&& (2147483647 : Int32)) % (3 : Int32))), .val (.ref w4), .val (.long (q2 &&& (9223372036854775807 : Int64))), .second, .unset, .unset] [(.ref b6)])) _
    refine XS.astore X7.here hx rfl (hb hby at_70) rfl rfl (l' := #[.val (.int p1), .val (.long q2), .second, .val (.int p3), .val (.int ((p1 &&& (2147483647 : Int32)) % (3 : Int32))), .val (.ref w4), .val (.long (q2 &&& (9223372036854775807 : Int64))), .second, .val (.ref b6), .unset]) rfl ?_
    show Steps p.tables e below (T7.setTop (mkF m 72 #[.val (.int p1), .val (.long q2), .second, .val (.int p3), .val (.int ((p1 &&& (2147483647 : Int32)) % (3 : Int32))), .val (.ref w4), .val (.long (q2 &&& (9223372036854775807 : Int64))), .second, .val (.ref b6), .unset] [])) _
    refine XS.lload X7.here hx rfl (hb hby at_72) rfl ?_
    show Steps p.tables e below (T7.setTop (mkF m 74 #[.val (.int p1), .val (.long q2), .second, .val (.int p3), .val (.int ((p1 &&& (2147483647 : Int32)) % (3 : Int32))), .val (.ref w4), .val (.long (q2 &&& (9223372036854775807 : Int64))), .second, .val (.ref b6), .unset] [(.long (q2 &&& (9223372036854775807 : Int64)))])) _
    refine XS.lconst X7.here hx rfl (hb hby at_74) ?_
    show Steps p.tables e below (T7.setTop (mkF m 75 #[.val (.int p1), .val (.long q2), .second, .val (.int p3), .val (.int ((p1 &&& (2147483647 : Int32)) % (3 : Int32))), .val (.ref w4), .val (.long (q2 &&& (9223372036854775807 : Int64))), .second, .val (.ref b6), .unset] [(.long (0 : Int64)), (.long (q2 &&& (9223372036854775807 : Int64)))])) _
    refine XS.lcmp X7.here hx rfl (hb hby at_75) rfl ?_
    show Steps p.tables e below (T7.setTop (mkF m 76 #[.val (.int p1), .val (.long q2), .second, .val (.int p3), .val (.int ((p1 &&& (2147483647 : Int32)) % (3 : Int32))), .val (.ref w4), .val (.long (q2 &&& (9223372036854775807 : Int64))), .second, .val (.ref b6), .unset] [(.int (lcmpW (q2 &&& (9223372036854775807 : Int64)) (0 : Int64)))])) _
    refine XS.ifNo X7.here hx rfl (hb hby at_76) rfl ((if0 _ _).trans (teq hc76).2) ?_
    show Steps p.tables e below (T7.setTop (mkF m 79 #[.val (.int p1), .val (.long q2), .second, .val (.int p3), .val (.int ((p1 &&& (2147483647 : Int32)) % (3 : Int32))), .val (.ref w4), .val (.long (q2 &&& (9223372036854775807 : Int64))), .second, .val (.ref b6), .unset] [])) _
    refine XS.iconst X7.here hx rfl (hb hby at_79) ?_
    show Steps p.tables e below (T7.setTop (mkF m 80 #[.val (.int p1), .val (.long q2), .second, .val (.int p3), .val (.int ((p1 &&& (2147483647 : Int32)) % (3 : Int32))), .val (.ref w4), .val (.long (q2 &&& (9223372036854775807 : Int64))), .second, .val (.ref b6), .unset] [(.int (1 : Int32))])) _
    refine XS.goto X7.here hx rfl (pc0 := 80) (pc' := 84) rfl (hb hby at_80) (by decide) (by decide) ?_
    show Steps p.tables e below (T7.setTop (mkF m 84 #[.val (.int p1), .val (.long q2), .second, .val (.int p3), .val (.int ((p1 &&& (2147483647 : Int32)) % (3 : Int32))), .val (.ref w4), .val (.long (q2 &&& (9223372036854775807 : Int64))), .second, .val (.ref b6), .unset] [(.int (1 : Int32))])) _
    refine XS.istore X7.here hx rfl (hb hby at_84) rfl (l' := #[.val (.int p1), .val (.long q2), .second, .val (.int p3), .val (.int ((p1 &&& (2147483647 : Int32)) % (3 : Int32))), .val (.ref w4), .val (.long (q2 &&& (9223372036854775807 : Int64))), .second, .val (.ref b6), .val (.int (1 : Int32))]) rfl ?_
    show Steps p.tables e below (T7.setTop (mkF m 86 #[.val (.int p1), .val (.long q2), .second, .val (.int p3), .val (.int ((p1 &&& (2147483647 : Int32)) % (3 : Int32))), .val (.ref w4), .val (.long (q2 &&& (9223372036854775807 : Int64))), .second, .val (.ref b6), .val (.int (1 : Int32))] [])) _
    refine XS.aload X7.here hx rfl (hb hby at_86) rfl rfl ?_
    show Steps p.tables e below (T7.setTop (mkF m 88 #[.val (.int p1), .val (.long q2), .second, .val (.int p3), .val (.int ((p1 &&& (2147483647 : Int32)) % (3 : Int32))), .val (.ref w4), .val (.long (q2 &&& (9223372036854775807 : Int64))), .second, .val (.ref b6), .val (.int (1 : Int32))] [(.ref b6)])) _
    refine st8.trans ?_
    show Steps p.tables e below (T8.setTop (mkF m 91 #[.val (.int p1), .val (.long q2), .second, .val (.int p3), .val (.int ((p1 &&& (2147483647 : Int32)) % (3 : Int32))), .val (.ref w4), .val (.long (q2 &&& (9223372036854775807 : Int64))), .second, .val (.ref b6), .val (.int (1 : Int32))] [(.int (1 : Int32))])) _
    refine XS.iload X8.here hx rfl (hb hby at_91) rfl ?_
    show Steps p.tables e below (T8.setTop (mkF m 93 #[.val (.int p1), .val (.long q2), .second, .val (.int p3), .val (.int ((p1 &&& (2147483647 : Int32)) % (3 : Int32))), .val (.ref w4), .val (.long (q2 &&& (9223372036854775807 : Int64))), .second, .val (.ref b6), .val (.int (1 : Int32))] [(.int (1 : Int32)), (.int (1 : Int32))])) _
    refine XS.icmpNo X8.here hx rfl (hb hby at_93) rfl (teq (rfl : (1 : Int32) = (1 : Int32))).2 ?_
    show Steps p.tables e below (T8.setTop (mkF m 96 #[.val (.int p1), .val (.long q2), .second, .val (.int p3), .val (.int ((p1 &&& (2147483647 : Int32)) % (3 : Int32))), .val (.ref w4), .val (.long (q2 &&& (9223372036854775807 : Int64))), .second, .val (.ref b6), .val (.int (1 : Int32))] [])) _
    refine XS.iconst X8.here hx rfl (hb hby at_96) ?_
    show Steps p.tables e below (T8.setTop (mkF m 97 #[.val (.int p1), .val (.long q2), .second, .val (.int p3), .val (.int ((p1 &&& (2147483647 : Int32)) % (3 : Int32))), .val (.ref w4), .val (.long (q2 &&& (9223372036854775807 : Int64))), .second, .val (.ref b6), .val (.int (1 : Int32))] [(.int (1 : Int32))])) _
    refine XS.goto X8.here hx rfl (pc0 := 97) (pc' := 101) rfl (hb hby at_97) (by decide) (by decide) ?_
    show Steps p.tables e below (T8.setTop (mkF m 101 #[.val (.int p1), .val (.long q2), .second, .val (.int p3), .val (.int ((p1 &&& (2147483647 : Int32)) % (3 : Int32))), .val (.ref w4), .val (.long (q2 &&& (9223372036854775807 : Int64))), .second, .val (.ref b6), .val (.int (1 : Int32))] [(.int (1 : Int32))])) _
    exact retN X8 hx (t := .boolean) Bd.returns (by simp) (hb hby at_101) hr
  · show Q0 n0 _ T8.heap _
    rw [eq8]
    exact ⟨rfl, N8⟩

set_option maxRecDepth 65536 in
set_option maxHeartbeats 40000000 in
theorem rm0_22 (l : Launch) (Z : State) (a0 : Array Value) (hw : ∀ d ∈ tables_1, d.before a0 Z = true) (ws : List Jvm.Cond) (p1 : Int32) (q2 : Int64) (p3 : Int32) (w4 : Addr) (h0 : Heap) (n0 : Nat) (Z0 : n0 ≤ h0.size) (S_STATEMENT : Sta Z h0 "com/example/albizia/albizia/limits/LimitLevel" "STATEMENT" "Lcom/example/albizia/albizia/limits/LimitLevel;" (.ref w4)) (hc10 : ¬ (((p1 &&& (2147483647 : Int32)) % (3 : Int32)) = (0 : Int32))) (hc24 : ¬ (((p1 &&& (2147483647 : Int32)) % (3 : Int32)) = (1 : Int32))) (hc43 : (p3 &&& (1 : Int32)) = (0 : Int32)) (hc76 : ¬ ((lcmpW (q2 &&& (9223372036854775807 : Int64)) (0 : Int64)) = (0 : Int32))) :
    MetFree l x (head1 (Jvm.Cond.code x code maxLocals ret :: ws) room_1) (fun a U => a = #[(.int p1), (.long q2), (.int p3)] ∧ Z.Warmed39 U.vm ∧ U.heap = h0) (fun _ _ _ _ _ => True) (fun _ U o U' => ∃ v L, o = .returned v ∧ Q0 n0 v U'.heap L ∧ ReturnedEndW U o U' L room_1.cells room_1.slots) := by
  refine MetFree.of_bodySF (plainFor_of_name pn_0) hisR ?_
  intro p e s m args below meth c s₁ Bd hml0 hP hK
  obtain ⟨rfl, hZ, hh⟩ := hP
  have hx := Bd.exec
  have hby := Bd.bytes
  have hml : c.maxLocals = 10 := hml0
  have hown : s.vm.findClass "com/example/albizia/albizia/limits/LimitIsNonePinLaw" = some m.cls := findClass_of_methodNamed Bd.named
  have hnm := (name_of_methodNamed Bd.named Bd.method).1
  have X0 : Stand p l e room_1 s m #[(.int p1), (.long q2), (.int p3)] below meth c s₁ [] 0 0 := Stand.of_body Bd
  have e0 : s₁.heap = h0 := by rw [← hh, Bd.state]; rfl
  have N0 := Fr.nil n0
  have pre0 : ∀ t, Steps p.tables e below (s₁.setTop (mkF m 0 #[.val (.int p1), .val (.long q2), .second, .val (.int p3), .unset, .unset, .unset, .unset, .unset, .unset] [])) t → Steps p.tables e below (s₁.setTop (entryFrame m #[(.int p1), (.long q2), (.int p3)] maxLocals)) t := fun t k => castTop (ef_0 m p1 q2 p3) k
  have hZ_0 := hZ
  have hown_0 := hown
  obtain ⟨T5, X5, e5, st5⟩ := getS2 X0 hx hZ hown (host := "") (Or.inl (hw _ (List.mem_of_getElem? (i := 45) rfl))) Via.refl e0 S_STATEMENT (g := (mkF m 35 #[.val (.int p1), .val (.long q2), .second, .val (.int p3), .val (.int ((p1 &&& (2147483647 : Int32)) % (3 : Int32))), .unset, .unset, .unset, .unset, .unset] [])) rfl (hb hby at_35)
  obtain ⟨T6, h6, X6, e6, E6, A6, D6, -, st6⟩ := newO X5 hx hZ hown (hw _ (List.mem_of_getElem? (i := 4) rfl)) (hw _ (List.mem_of_getElem? (i := 5) rfl)) (hw _ (List.mem_of_getElem? (i := 6) rfl)) e5 (g := (mkF m 59 #[.val (.int p1), .val (.long q2), .second, .val (.int p3), .val (.int ((p1 &&& (2147483647 : Int32)) % (3 : Int32))), .val (.ref w4), .val (.long (q2 &&& (9223372036854775807 : Int64))), .second, .unset, .unset] [])) rfl (hb hby at_59) (by decide) (by decide)
  obtain ⟨b6, g6⟩ : ∃ z, z = h0.size := ⟨_, rfl⟩      -- the fresh object's address
  rw [← g6] at A6 D6 st6      -- A6 : Exa Z h6 b6 "com/example/albizia/albizia/limits/Limit"; E6 : Ext h0 h6 (carries every older fact: .ext E6)
  have F_level_b6 : Fld Z h6 b6 "com/example/albizia/albizia/limits/Limit" "level" "Lcom/example/albizia/albizia/limits/LimitLevel;" .null := D6 (Or.inr (hw _ (List.mem_of_getElem? (i := 34) rfl))) (ty := (.object "com/example/albizia/albizia/limits/LimitLevel")) (by decide)
  have F_millis_b6 : Fld Z h6 b6 "com/example/albizia/albizia/limits/Limit" "millis" "J" (.long (0 : Int64)) := D6 (Or.inr (hw _ (List.mem_of_getElem? (i := 36) rfl))) (ty := .long) (by decide)
  have E_b6 := A6
  have g_b6 : n0 ≤ b6 := Nat.le_trans Z0 (Nat.le_of_eq g6.symm)
  have sz_b6 : h0.size ≤ b6 := (Nat.le_trans (Keep.refl h0 []).1 (Nat.le_of_eq g6.symm))
  have K6 : Keep h0 h6 [] := (Keep.refl h0 []).ext E6
  -- pc 67: the constructor of com/example/albizia/albizia/limits/Limit by its contract rm1
  obtain ⟨_, _, ⟨T7, L7, k7, n7⟩, -, X7, Sn7, Gn7, ⟨Lc7, hQ7, l7, y7, z7⟩, st7⟩ := X6.specialBackS hx (y := (⟨"com/example/albizia/albizia/limits/Limit", "<init>", "(Lcom/example/albizia/albizia/limits/LimitLevel;J)V"⟩ : MethodName)) rfl hown (mvT hZ (hw _ (List.mem_of_getElem? (i := 7) rfl))) (mvT hZ (hw _ (List.mem_of_getElem? (i := 8) rfl))) (mvT hZ (hw _ (List.mem_of_getElem? (i := 9) rfl))) (by decide) (backOfS (W := 1) (rm1 l Z a0 hw [] b6 w4 (q2 &&& (9223372036854775807 : Int64)) .null (.long (0 : Int64)) h6 n0 (Nat.le_trans Z0 E6.1) E_b6 F_level_b6 g_b6 F_millis_b6 (own_nn q2)) hZ (hw _ (List.mem_of_getElem? (i := 9) rfl)) (hw _ (List.mem_of_getElem? (i := 6) rfl)) (by decide) (by decide)) (g := (mkF m 67 #[.val (.int p1), .val (.long q2), .second, .val (.int p3), .val (.int ((p1 &&& (2147483647 : Int32)) % (3 : Int32))), .val (.ref w4), .val (.long (q2 &&& (9223372036854775807 : Int64))), .second, .unset, .unset] [(.long (q2 &&& (9223372036854775807 : Int64))), (.ref w4), (.ref b6), (.ref b6)])) rfl (by rw [hml]; rfl) (Steps.refl _) (a := b6) (argsL := [(.ref w4), (.long (q2 &&& (9223372036854775807 : Int64)))]) (rest := [(.ref b6)]) (lenOf pd_0_0 rfl) rfl (by show 2 * 0 + _ ≤ _; exact Nat.le_of_eq rfl) (hb hby at_67) (fun _ _ => ⟨rfl, e6, (by decide : 1 + 2 ≤ _), (by decide : 2 + 24 ≤ _)⟩)
  dsimp only [Pt.U, Pt.locs, Pt.cells, Pt.slots] at X7 l7 y7 z7 st7 hQ7
  subst l7 y7 z7
  obtain ⟨rfl, N7q, K1q, E1q, F1q⟩ := hQ7
  have N7 := Fr.app N0 N7q
  have hZ : Z.Warmed39 (s.setVm T7.vm).vm := State.Warmed39.trans (t := s) hZ Sn7.1
  have hown : (s.setVm T7.vm).vm.findClass "com/example/albizia/albizia/limits/LimitIsNonePinLaw" = some m.cls := by rw [show (s.setVm T7.vm).vm = T7.vm from rfl, Sn7.1.alike.findClass]; exact hown
  -- pc 88: com/example/albizia/albizia/limits/Limit.isNone by the contract of the body that the receiver's class selects, rm6
  obtain ⟨cq8, kq8, q8a, q8b, q8c⟩ := isOf hZ rfl E1q
  obtain ⟨_, _, ⟨T8, L8, k8, n8⟩, -, X8, ⟨Lc8, hQ8, l8, y8, z8⟩, st8⟩ := X7.virtualBack hx (y := (⟨"com/example/albizia/albizia/limits/Limit", "isNone", "()Z"⟩ : MethodName)) (z := (⟨"com/example/albizia/albizia/limits/Limit", "isNone", "()Z"⟩ : MethodName)) hown (mvT hZ (hw _ (List.mem_of_getElem? (i := 37) rfl))) (mvT hZ (hw _ (List.mem_of_getElem? (i := 38) rfl))) (notFace_of_selects (args := #[]) (mvT hZ (hw _ (List.mem_of_getElem? (i := 40) rfl)))) (mvT hZ (hw _ (List.mem_of_getElem? (i := 40) rfl))) (mvT hZ (hw _ (List.mem_of_getElem? (i := 39) rfl))) (by decide) (backOf (W := 0) (rm6b l Z a0 hw [] b6 (q2 &&& (9223372036854775807 : Int64)) T7.heap n0 (Nat.le_trans Z0 (Nat.le_trans E6.1 K1q.1)) F1q hc76) hZ (hw _ (List.mem_of_getElem? (i := 41) rfl)) (hw _ (List.mem_of_getElem? (i := 6) rfl)) (by decide) (by decide)) q8a q8c (g := (mkF m 88 #[.val (.int p1), .val (.long q2), .second, .val (.int p3), .val (.int ((p1 &&& (2147483647 : Int32)) % (3 : Int32))), .val (.ref w4), .val (.long (q2 &&& (9223372036854775807 : Int64))), .second, .val (.ref b6), .val (.int (0 : Int32))] [(.ref b6)])) rfl (by rw [hml]; rfl) (Steps.refl _) (argsL := []) (rest := []) (lenOf pd_0_3 rfl) rfl (by show 2 * 0 + _ ≤ _; exact Nat.le_of_eq rfl) (hb hby at_88) (fun _ _ => ⟨rfl, rfl, (by decide : 3 + 0 ≤ _), (by decide : 26 + 0 ≤ _)⟩)
  dsimp only [Pt.U, Pt.locs, Pt.cells, Pt.slots] at X8 l8 y8 z8 st8 hQ8
  subst l8 y8 z8
  obtain ⟨rfl, N8q, eq8⟩ := hQ8
  have N8 := Fr.app N7 N8q
  obtain ⟨fs, hr, hrun, hended, hRW⟩ := X8.leaveW Sn7 (Nat.le_of_eq (congrArg (fun hh : Heap => hh.size) eq8.symm)) (v := some (.int (1 : Int32))) (fun h => by rw [Bd.returns] at h; cases h)
  refine ⟨_, _, pre0 _ ?_, hrun, hended, _, _, rfl, ?_, hRW.1, hRW.2.1, hRW.2.2.1, hRW.2.2.2.mono (by decide) (by decide)⟩
  · show Steps p.tables e below (s₁.setTop (mkF m 0 #[.val (.int p1), .val (.long q2), .second, .val (.int p3), .unset, .unset, .unset, .unset, .unset, .unset] [])) _
    refine XS.iloadN X0.here hx rfl (hb hby at_0) rfl ?_
    show Steps p.tables e below (s₁.setTop (mkF m 1 #[.val (.int p1), .val (.long q2), .second, .val (.int p3), .unset, .unset, .unset, .unset, .unset, .unset] [(.int p1)])) _
    refine ldcI X0 hx hown_0 (mvT hZ_0 (hw _ (List.mem_of_getElem? (i := 0) rfl))) rfl (hb hby at_1) ?_
    show Steps p.tables e below (s₁.setTop (mkF m 3 #[.val (.int p1), .val (.long q2), .second, .val (.int p3), .unset, .unset, .unset, .unset, .unset, .unset] [(.int (2147483647 : Int32)), (.int p1)])) _
    refine XS.iand X0.here hx rfl (hb hby at_3) rfl ?_
    show Steps p.tables e below (s₁.setTop (mkF m 4 #[.val (.int p1), .val (.long q2), .second, .val (.int p3), .unset, .unset, .unset, .unset, .unset, .unset] [(.int (p1 &&& (2147483647 : Int32)))])) _
    refine XS.iconst X0.here hx rfl (hb hby at_4) ?_
    show Steps p.tables e below (s₁.setTop (mkF m 5 #[.val (.int p1), .val (.long q2), .second, .val (.int p3), .unset, .unset, .unset, .unset, .unset, .unset] [(.int (3 : Int32)), (.int (p1 &&& (2147483647 : Int32)))])) _
    refine iremM X0 hx rfl (hb hby at_5) rfl (by decide) ?_
    show Steps p.tables e below (s₁.setTop (mkF m 6 #[.val (.int p1), .val (.long q2), .second, .val (.int p3), .unset, .unset, .unset, .unset, .unset, .unset] [(.int ((p1 &&& (2147483647 : Int32)) % (3 : Int32)))])) _
    refine XS.istore X0.here hx rfl (hb hby at_6) rfl (l' := #[.val (.int p1), .val (.long q2), .second, .val (.int p3), .val (.int ((p1 &&& (2147483647 : Int32)) % (3 : Int32))), .unset, .unset, .unset, .unset, .unset]) rfl ?_
    show Steps p.tables e below (s₁.setTop (mkF m 8 #[.val (.int p1), .val (.long q2), .second, .val (.int p3), .val (.int ((p1 &&& (2147483647 : Int32)) % (3 : Int32))), .unset, .unset, .unset, .unset, .unset] [])) _
    refine XS.iload X0.here hx rfl (hb hby at_8) rfl ?_
    show Steps p.tables e below (s₁.setTop (mkF m 10 #[.val (.int p1), .val (.long q2), .second, .val (.int p3), .val (.int ((p1 &&& (2147483647 : Int32)) % (3 : Int32))), .unset, .unset, .unset, .unset, .unset] [(.int ((p1 &&& (2147483647 : Int32)) % (3 : Int32)))])) _
    refine XS.ifYes X0.here hx rfl (pc0 := 10) (pc' := 21) rfl (hb hby at_10) rfl ((if0 _ _).trans (feq hc10).2) (by decide) (by decide) ?_
    show Steps p.tables e below (s₁.setTop (mkF m 21 #[.val (.int p1), .val (.long q2), .second, .val (.int p3), .val (.int ((p1 &&& (2147483647 : Int32)) % (3 : Int32))), .unset, .unset, .unset, .unset, .unset] [])) _
    refine XS.iload X0.here hx rfl (hb hby at_21) rfl ?_
    show Steps p.tables e below (s₁.setTop (mkF m 23 #[.val (.int p1), .val (.long q2), .second, .val (.int p3), .val (.int ((p1 &&& (2147483647 : Int32)) % (3 : Int32))), .unset, .unset, .unset, .unset, .unset] [(.int ((p1 &&& (2147483647 : Int32)) % (3 : Int32)))])) _
    refine XS.iconst X0.here hx rfl (hb hby at_23) ?_
    show Steps p.tables e below (s₁.setTop (mkF m 24 #[.val (.int p1), .val (.long q2), .second, .val (.int p3), .val (.int ((p1 &&& (2147483647 : Int32)) % (3 : Int32))), .unset, .unset, .unset, .unset, .unset] [(.int (1 : Int32)), (.int ((p1 &&& (2147483647 : Int32)) % (3 : Int32)))])) _
    refine XS.icmpYes X0.here hx rfl (pc0 := 24) (pc' := 35) rfl (hb hby at_24) rfl (feq hc24).2 (by decide) (by decide) ?_
    show Steps p.tables e below (s₁.setTop (mkF m 35 #[.val (.int p1), .val (.long q2), .second, .val (.int p3), .val (.int ((p1 &&& (2147483647 : Int32)) % (3 : Int32))), .unset, .unset, .unset, .unset, .unset] [])) _
    refine st5 _ ?_
    show Steps p.tables e below (T5.setTop (mkF m 38 #[.val (.int p1), .val (.long q2), .second, .val (.int p3), .val (.int ((p1 &&& (2147483647 : Int32)) % (3 : Int32))), .unset, .unset, .unset, .unset, .unset] [(.ref w4)])) _
    refine XS.astore X5.here hx rfl (hb hby at_38) rfl rfl (l' := #[.val (.int p1), .val (.long q2), .second, .val (.int p3), .val (.int ((p1 &&& (2147483647 : Int32)) % (3 : Int32))), .val (.ref w4), .unset, .unset, .unset, .unset]) rfl ?_
    show Steps p.tables e below (T5.setTop (mkF m 40 #[.val (.int p1), .val (.long q2), .second, .val (.int p3), .val (.int ((p1 &&& (2147483647 : Int32)) % (3 : Int32))), .val (.ref w4), .unset, .unset, .unset, .unset] [])) _
    refine XS.iloadN X5.here hx rfl (hb hby at_40) rfl ?_
    show Steps p.tables e below (T5.setTop (mkF m 41 #[.val (.int p1), .val (.long q2), .second, .val (.int p3), .val (.int ((p1 &&& (2147483647 : Int32)) % (3 : Int32))), .val (.ref w4), .unset, .unset, .unset, .unset] [(.int p3)])) _
    refine XS.iconst X5.here hx rfl (hb hby at_41) ?_
    show Steps p.tables e below (T5.setTop (mkF m 42 #[.val (.int p1), .val (.long q2), .second, .val (.int p3), .val (.int ((p1 &&& (2147483647 : Int32)) % (3 : Int32))), .val (.ref w4), .unset, .unset, .unset, .unset] [(.int (1 : Int32)), (.int p3)])) _
    refine XS.iand X5.here hx rfl (hb hby at_42) rfl ?_
    show Steps p.tables e below (T5.setTop (mkF m 43 #[.val (.int p1), .val (.long q2), .second, .val (.int p3), .val (.int ((p1 &&& (2147483647 : Int32)) % (3 : Int32))), .val (.ref w4), .unset, .unset, .unset, .unset] [(.int (p3 &&& (1 : Int32)))])) _
    refine XS.ifYes X5.here hx rfl (pc0 := 43) (pc' := 52) rfl (hb hby at_43) rfl ((if0 _ _).trans (teq hc43).1) (by decide) (by decide) ?_
    show Steps p.tables e below (T5.setTop (mkF m 52 #[.val (.int p1), .val (.long q2), .second, .val (.int p3), .val (.int ((p1 &&& (2147483647 : Int32)) % (3 : Int32))), .val (.ref w4), .unset, .unset, .unset, .unset] [])) _
    refine XS.lloadN X5.here hx rfl (hb hby at_52) rfl ?_
    show Steps p.tables e below (T5.setTop (mkF m 53 #[.val (.int p1), .val (.long q2), .second, .val (.int p3), .val (.int ((p1 &&& (2147483647 : Int32)) % (3 : Int32))), .val (.ref w4), .unset, .unset, .unset, .unset] [(.long q2)])) _
    refine ldc2J X5 hx hown_0 (mvT hZ_0 (hw _ (List.mem_of_getElem? (i := 42) rfl))) rfl (hb hby at_53) ?_
    show Steps p.tables e below (T5.setTop (mkF m 56 #[.val (.int p1), .val (.long q2), .second, .val (.int p3), .val (.int ((p1 &&& (2147483647 : Int32)) % (3 : Int32))), .val (.ref w4), .unset, .unset, .unset, .unset] [(.long (9223372036854775807 : Int64)), (.long q2)])) _
    refine XS.land X5.here hx rfl (hb hby at_56) rfl ?_
    show Steps p.tables e below (T5.setTop (mkF m 57 #[.val (.int p1), .val (.long q2), .second, .val (.int p3), .val (.int ((p1 &&& (2147483647 : Int32)) % (3 : Int32))), .val (.ref w4), .unset, .unset, .unset, .unset] [(.long (q2 &&& (9223372036854775807 : Int64)))])) _
    refine XS.lstore X5.here hx rfl (hb hby at_57) rfl (l' := #[.val (.int p1), .val (.long q2), .second, .val (.int p3), .val (.int ((p1 &&& (2147483647 : Int32)) % (3 : Int32))), .val (.ref w4), .val (.long (q2 &&& (9223372036854775807 : Int64))), .second, .unset, .unset]) rfl ?_
    show Steps p.tables e below (T5.setTop (mkF m 59 #[.val (.int p1), .val (.long q2), .second, .val (.int p3), .val (.int ((p1 &&& (2147483647 : Int32)) % (3 : Int32))), .val (.ref w4), .val (.long (q2 &&& (9223372036854775807 : Int64))), .second, .unset, .unset] [])) _
    refine st6 _ ?_
    show Steps p.tables e below (T6.setTop (mkF m 62 #[.val (.int p1), .val (.long q2), .second, .val (.int p3), .val (.int ((p1 &&& (2147483647 : Int32)) % (3 : Int32))), .val (.ref w4), .val (.long (q2 &&& (9223372036854775807 : Int64))), .second, .unset, .unset] [(.ref b6)])) _
    refine XS.dup X6.here hx rfl (hb hby at_62) rfl rfl ?_
    show Steps p.tables e below (T6.setTop (mkF m 63 #[.val (.int p1), .val (.long q2), .second, .val (.int p3), .val (.int ((p1 &&& (2147483647 : Int32)) % (3 : Int32))), .val (.ref w4), .val (.long (q2 &&& (9223372036854775807 : Int64))), .second, .unset, .unset] [(.ref b6), (.ref b6)])) _
    refine XS.aload X6.here hx rfl (hb hby at_63) rfl rfl ?_
    show Steps p.tables e below (T6.setTop (mkF m 65 #[.val (.int p1), .val (.long q2), .second, .val (.int p3), .val (.int ((p1 &&& (2147483647 : Int32)) % (3 : Int32))), .val (.ref w4), .val (.long (q2 &&& (9223372036854775807 : Int64))), .second, .unset, .unset] [(.ref w4), (.ref b6), (.ref b6)])) _
    refine XS.lload X6.here hx rfl (hb hby at_65) rfl ?_
    show Steps p.tables e below (T6.setTop (mkF m 67 #[.val (.int p1), .val (.long q2), .second, .val (.int p3), .val (.int ((p1 &&& (2147483647 : Int32)) % (3 : Int32))), .val (.ref w4), .val (.long (q2 &&& (9223372036854775807 : Int64))), .second, .unset, .unset] [(.long (q2 &&& (9223372036854775807 : Int64))), (.ref w4), (.ref b6), (.ref b6)])) _
    refine st7.trans ?_
    show Steps p.tables e below (T7.setTop (mkF m 70 #[.val (.int p1), .val (.long q2), .second, .val (.int p3), .val (.int ((p1 &&& (2147483647 : Int32)) % (3 : Int32))), .val (.ref w4), .val (.long (q2 &&& (9223372036854775807 : Int64))), .second, .unset, .unset] [(.ref b6)])) _
    refine XS.astore X7.here hx rfl (hb hby at_70) rfl rfl (l' := #[.val (.int p1), .val (.long q2), .second, .val (.int p3), .val (.int ((p1 &&& (2147483647 : Int32)) % (3 : Int32))), .val (.ref w4), .val (.long (q2 &&& (9223372036854775807 : Int64))), .second, .val (.ref b6), .unset]) rfl ?_
    show Steps p.tables e below (T7.setTop (mkF m 72 #[.val (.int p1), .val (.long q2), .second, .val (.int p3), .val (.int ((p1 &&& (2147483647 : Int32)) % (3 : Int32))), .val (.ref w4), .val (.long (q2 &&& (9223372036854775807 : Int64))), .second, .val (.ref b6), .unset] [])) _
    refine XS.lload X7.here hx rfl (hb hby at_72) rfl ?_
    show Steps p.tables e below (T7.setTop (mkF m 74 #[.val (.int p1), .val (.long q2), .second, .val (.int p3), .val (.int ((p1 &&& (2147483647 : Int32)) % (3 : Int32))), .val (.ref w4), .val (.long (q2 &&& (9223372036854775807 : Int64))), .second, .val (.ref b6), .unset] [(.long (q2 &&& (9223372036854775807 : Int64)))])) _
    refine XS.lconst X7.here hx rfl (hb hby at_74) ?_
    show Steps p.tables e below (T7.setTop (mkF m 75 #[.val (.int p1), .val (.long q2), .second, .val (.int p3), .val (.int ((p1 &&& (2147483647 : Int32)) % (3 : Int32))), .val (.ref w4), .val (.long (q2 &&& (9223372036854775807 : Int64))), .second, .val (.ref b6), .unset] [(.long (0 : Int64)), (.long (q2 &&& (9223372036854775807 : Int64)))])) _
    refine XS.lcmp X7.here hx rfl (hb hby at_75) rfl ?_
    show Steps p.tables e below (T7.setTop (mkF m 76 #[.val (.int p1), .val (.long q2), .second, .val (.int p3), .val (.int ((p1 &&& (2147483647 : Int32)) % (3 : Int32))), .val (.ref w4), .val (.long (q2 &&& (9223372036854775807 : Int64))), .second, .val (.ref b6), .unset] [(.int (lcmpW (q2 &&& (9223372036854775807 : Int64)) (0 : Int64)))])) _
    refine XS.ifYes X7.here hx rfl (pc0 := 76) (pc' := 83) rfl (hb hby at_76) rfl ((if0 _ _).trans (feq hc76).2) (by decide) (by decide) ?_
    show Steps p.tables e below (T7.setTop (mkF m 83 #[.val (.int p1), .val (.long q2), .second, .val (.int p3), .val (.int ((p1 &&& (2147483647 : Int32)) % (3 : Int32))), .val (.ref w4), .val (.long (q2 &&& (9223372036854775807 : Int64))), .second, .val (.ref b6), .unset] [])) _
    refine XS.iconst X7.here hx rfl (hb hby at_83) ?_
    show Steps p.tables e below (T7.setTop (mkF m 84 #[.val (.int p1), .val (.long q2), .second, .val (.int p3), .val (.int ((p1 &&& (2147483647 : Int32)) % (3 : Int32))), .val (.ref w4), .val (.long (q2 &&& (9223372036854775807 : Int64))), .second, .val (.ref b6), .unset] [(.int (0 : Int32))])) _
    refine XS.istore X7.here hx rfl (hb hby at_84) rfl (l' := #[.val (.int p1), .val (.long q2), .second, .val (.int p3), .val (.int ((p1 &&& (2147483647 : Int32)) % (3 : Int32))), .val (.ref w4), .val (.long (q2 &&& (9223372036854775807 : Int64))), .second, .val (.ref b6), .val (.int (0 : Int32))]) rfl ?_
    show Steps p.tables e below (T7.setTop (mkF m 86 #[.val (.int p1), .val (.long q2), .second, .val (.int p3), .val (.int ((p1 &&& (2147483647 : Int32)) % (3 : Int32))), .val (.ref w4), .val (.long (q2 &&& (9223372036854775807 : Int64))), .second, .val (.ref b6), .val (.int (0 : Int32))] [])) _
    refine XS.aload X7.here hx rfl (hb hby at_86) rfl rfl ?_
    show Steps p.tables e below (T7.setTop (mkF m 88 #[.val (.int p1), .val (.long q2), .second, .val (.int p3), .val (.int ((p1 &&& (2147483647 : Int32)) % (3 : Int32))), .val (.ref w4), .val (.long (q2 &&& (9223372036854775807 : Int64))), .second, .val (.ref b6), .val (.int (0 : Int32))] [(.ref b6)])) _
    refine st8.trans ?_
    show Steps p.tables e below (T8.setTop (mkF m 91 #[.val (.int p1), .val (.long q2), .second, .val (.int p3), .val (.int ((p1 &&& (2147483647 : Int32)) % (3 : Int32))), .val (.ref w4), .val (.long (q2 &&& (9223372036854775807 : Int64))), .second, .val (.ref b6), .val (.int (0 : Int32))] [(.int (0 : Int32))])) _
    refine XS.iload X8.here hx rfl (hb hby at_91) rfl ?_
    show Steps p.tables e below (T8.setTop (mkF m 93 #[.val (.int p1), .val (.long q2), .second, .val (.int p3), .val (.int ((p1 &&& (2147483647 : Int32)) % (3 : Int32))), .val (.ref w4), .val (.long (q2 &&& (9223372036854775807 : Int64))), .second, .val (.ref b6), .val (.int (0 : Int32))] [(.int (0 : Int32)), (.int (0 : Int32))])) _
    refine XS.icmpNo X8.here hx rfl (hb hby at_93) rfl (teq (rfl : (0 : Int32) = (0 : Int32))).2 ?_
    show Steps p.tables e below (T8.setTop (mkF m 96 #[.val (.int p1), .val (.long q2), .second, .val (.int p3), .val (.int ((p1 &&& (2147483647 : Int32)) % (3 : Int32))), .val (.ref w4), .val (.long (q2 &&& (9223372036854775807 : Int64))), .second, .val (.ref b6), .val (.int (0 : Int32))] [])) _
    refine XS.iconst X8.here hx rfl (hb hby at_96) ?_
    show Steps p.tables e below (T8.setTop (mkF m 97 #[.val (.int p1), .val (.long q2), .second, .val (.int p3), .val (.int ((p1 &&& (2147483647 : Int32)) % (3 : Int32))), .val (.ref w4), .val (.long (q2 &&& (9223372036854775807 : Int64))), .second, .val (.ref b6), .val (.int (0 : Int32))] [(.int (1 : Int32))])) _
    refine XS.goto X8.here hx rfl (pc0 := 97) (pc' := 101) rfl (hb hby at_97) (by decide) (by decide) ?_
    show Steps p.tables e below (T8.setTop (mkF m 101 #[.val (.int p1), .val (.long q2), .second, .val (.int p3), .val (.int ((p1 &&& (2147483647 : Int32)) % (3 : Int32))), .val (.ref w4), .val (.long (q2 &&& (9223372036854775807 : Int64))), .second, .val (.ref b6), .val (.int (0 : Int32))] [(.int (1 : Int32))])) _
    exact retN X8 hx (t := .boolean) Bd.returns (by simp) (hb hby at_101) hr
  · show Q0 n0 _ T8.heap _
    rw [eq8]
    exact ⟨rfl, N8⟩

theorem rm0 (l : Launch) (Z : State) (a0 : Array Value) (hw : ∀ d ∈ tables_1, d.before a0 Z = true) (ws : List Jvm.Cond) (p1 : Int32) (q2 : Int64) (p3 : Int32) (w0 w1 w2 : Addr) (h0 : Heap) (n0 : Nat) (Z0 : n0 ≤ h0.size) (S0 : Sta Z h0 "com/example/albizia/albizia/limits/LimitLevel" "DATABASE" "Lcom/example/albizia/albizia/limits/LimitLevel;" (.ref w0)) (S1 : Sta Z h0 "com/example/albizia/albizia/limits/LimitLevel" "SESSION" "Lcom/example/albizia/albizia/limits/LimitLevel;" (.ref w1)) (S2 : Sta Z h0 "com/example/albizia/albizia/limits/LimitLevel" "STATEMENT" "Lcom/example/albizia/albizia/limits/LimitLevel;" (.ref w2)) :
    MetFree l x (head1 (Jvm.Cond.code x code maxLocals ret :: ws) room_1) (fun a U => a = #[(.int p1), (.long q2), (.int p3)] ∧ Z.Warmed39 U.vm ∧ U.heap = h0) (fun _ _ _ _ _ => True) (fun _ U o U' => ∃ v L, o = .returned v ∧ Q0 n0 v U'.heap L ∧ ReturnedEndW U o U' L room_1.cells room_1.slots) := by
  by_cases d1 : (p3 &&& (1 : Int32)) = (0 : Int32)
  · by_cases d2 : (lcmpW (q2 &&& (9223372036854775807 : Int64)) (0 : Int64)) = (0 : Int32)
    · by_cases c0 : ((p1 &&& (2147483647 : Int32)) % (3 : Int32)) = (0 : Int32)
      · exact rm0_01 l Z a0 hw ws p1 q2 p3 w0 h0 n0 Z0 S0 c0 d1 d2
      by_cases c1 : ((p1 &&& (2147483647 : Int32)) % (3 : Int32)) = (1 : Int32)
      · exact rm0_11 l Z a0 hw ws p1 q2 p3 w1 h0 n0 Z0 S1 c0 c1 d1 d2
      · exact rm0_21 l Z a0 hw ws p1 q2 p3 w2 h0 n0 Z0 S2 c0 c1 d1 d2
    · by_cases c0 : ((p1 &&& (2147483647 : Int32)) % (3 : Int32)) = (0 : Int32)
      · exact rm0_02 l Z a0 hw ws p1 q2 p3 w0 h0 n0 Z0 S0 c0 d1 d2
      by_cases c1 : ((p1 &&& (2147483647 : Int32)) % (3 : Int32)) = (1 : Int32)
      · exact rm0_12 l Z a0 hw ws p1 q2 p3 w1 h0 n0 Z0 S1 c0 c1 d1 d2
      · exact rm0_22 l Z a0 hw ws p1 q2 p3 w2 h0 n0 Z0 S2 c0 c1 d1 d2
  · by_cases c0 : ((p1 &&& (2147483647 : Int32)) % (3 : Int32)) = (0 : Int32)
    · exact rm0_00 l Z a0 hw ws p1 q2 p3 w0 h0 n0 Z0 S0 c0 d1
    by_cases c1 : ((p1 &&& (2147483647 : Int32)) % (3 : Int32)) = (1 : Int32)
    · exact rm0_10 l Z a0 hw ws p1 q2 p3 w1 h0 n0 Z0 S1 c0 c1 d1
    · exact rm0_20 l Z a0 hw ws p1 q2 p3 w2 h0 n0 Z0 S2 c0 c1 d1

set_option maxRecDepth 65536 in
set_option maxHeartbeats 40000000 in
theorem comes_1 {Post : Tables → Env → Array Value → State → Outcome → State → Prop} (hpost : ∀ tb e args s v u, (limb_1_1.after args s (.returned v) u = true ∧ limb_1_2.after args s (.returned v) u = true ∧ True) → ReturnedEndW s (.returned v) u (Jvm.fieldLocs frame_1_writes args s ++ Jvm.arrayLocs frame_1_arrays args s ++ Jvm.staticLocs frame_1_statics s) 16 1152 → Post tb e args s (.returned v) u) :
    ArmFor flags0 classFile x code maxLocals ret World_1 tables_1 room_1 Calls_1 rest_1 Pre_1 Post := by
  intro l hfl _ _ p e ha hc hk s m args below hf hA hF happ hP
  obtain ⟨hcalls, hrest, hpre⟩ := hP
  obtain ⟨-, -, -, hnamed, -, -, -, hat⟩ := (Spec.applies_iff hf).mp happ
  obtain ⟨hg, hn⟩ := and_e (Cond.before_iff.mp (show (Jvm.Cond.and given_1 narrow_1).before args s = true from hpre))
  obtain ⟨g9, g10⟩ := and_e hg
  obtain ⟨g11, g12⟩ := and_e g10
  obtain ⟨g13, g14⟩ := and_e g12
  obtain ⟨w0, w1, w2, rfl⟩ : ∃ w0 w1 w2 : Value, args = #[w0, w1, w2] := by
    have hs : args.size = 3 := by simpa [Cond.value, given_1] using g9
    obtain ⟨L⟩ := args
    match L, hs with
    | [w0, w1, w2], _ => exact ⟨w0, w1, w2, rfl⟩
  have hw := fun d (hd : d ∈ tables_1) => atoms_spec (ws := Jvm.Cond.code x code maxLocals ret :: tables_1) hat d (List.mem_cons_of_mem _ hd)
  have hfit : Fit s := fun {y c} hc i hi => by
    obtain ⟨ha, rfl⟩ := Array.getElem?_eq_some_iff.mp hc
    have q := List.all_eq_true.mp ((Array.all_eq_true_iff_forall_mem.mp hF) _ (Array.getElem_mem ha)) i (List.mem_range.mpr hi)
    simpa [Array.getElem?_eq_getElem hi] using q
  obtain ⟨i0, ei0⟩ := is_v g11
  obtain rfl : w0 = (.int i0) := Option.some.inj ei0
  obtain ⟨i1, ei1⟩ := isL_v g13
  obtain rfl : w1 = (.long i1) := Option.some.inj ei1
  obtain ⟨i2, ei2⟩ := is_v g14
  obtain rfl : w2 = (.int i2) := Option.some.inj ei2
  obtain ⟨n0, hn⟩ := and_e hn
  obtain ⟨n1, hn⟩ := and_e hn
  have n2 := hn
  obtain ⟨b0, eb0⟩ := exa_v n0
  obtain ⟨b1, eb1⟩ := exa_v n1
  obtain ⟨b2, eb2⟩ := exa_v n2
  obtain ⟨n, o, h1, h2, h3, _, L, rfl, ⟨rfl, N⟩, hq⟩ := rm0 l s _ hw tables_1 i0 i1 i2 b0 b1 b2 s.heap s.heap.size (Nat.le_refl _) (Sta.start eb0 (Or.inr ⟨(hw _ (List.mem_of_getElem? (i := 2) rfl)), (hw _ (List.mem_of_getElem? (i := 3) rfl))⟩)) (Sta.start eb1 (Or.inr ⟨(hw _ (List.mem_of_getElem? (i := 2) rfl)), (hw _ (List.mem_of_getElem? (i := 44) rfl))⟩)) (Sta.start eb2 (Or.inr ⟨(hw _ (List.mem_of_getElem? (i := 2) rfl)), (hw _ (List.mem_of_getElem? (i := 46) rfl))⟩)) p e ha hc hk s m _ below hf ((Spec.applies_iff_loose hf).mp happ).1 ⟨rfl, State.Warmed39.refl s, rfl⟩ trivial
  refine ⟨n, _, h1, h2, h3, hpost _ _ _ _ _ _ ⟨Cond.after_iff.mpr rfl, Cond.after_iff.mpr (eq_i res_at (Term.int_eval (1)) rfl), trivial⟩ ⟨hq.1, hq.2.1, hq.2.2.1, (hq.2.2.2.sift fun y hy => Or.inr (N y hy)).mono (by decide) (by decide)⟩⟩
theorem main_1_1 : Claimed_1_1 := comes_1 fun _ _ _ _ _ _ h hF => ⟨h.1, hF⟩
theorem main_1_2 : Claimed_1_2 := comes_1 fun _ _ _ _ _ _ h hF => ⟨h.2.1, hF⟩

end Jvm.Pilot.@@N@@
namespace Jvm.Pilot.@@N@@
open Jvm Jvm.ClassFile Sem Op Lib Jvm.Free Jvm.Stand Jvm.Pilot.@@N@@.Jvm.D
/-! MADE BY PROGRAM (witnessworld.py) out of the Statement's table words and the real class files: 16 classes; the members and pool entries that the words name. The judged class is class 1, her method 1. -/
namespace start1
open Jvm.ClassFile
def u (s : String) : CpInfo := .utf8 (stringToUtf16 s)
/-- a pool by its gaps: so many unusable entries, then the entry; so many at the end -/
def gap : Nat → List CpInfo → List CpInfo
  | 0, r => r
  | n + 1, r => .unusable :: gap n r
def poolList (es : List (Nat × CpInfo)) (last : Nat) : List CpInfo := es.foldr (fun e r => gap e.1 (e.2 :: r)) (gap last [])
def pool (es : List (Nat × CpInfo)) (last : Nat) : Array CpInfo := ⟨poolList es last⟩
def fileOf (pool : Array CpInfo) (this : Nat) (attrs : Array Attribute := #[]) (ms : Array MethodInfo := #[]) (fl : Nat := 33) (sup : Nat := 0) (ifs : Array Nat := #[]) (fds : Array FieldInfo := #[]) : ClassFile where
  minorVersion := 0
  majorVersion := 65
  constantPool := pool
  accessFlags := fl
  thisClass := this
  superClass := sup
  interfaces := ifs
  fields := fds
  methods := ms
  attributes := attrs
def plain (name : String) (sup : Option ClassId) : Class where
  name := name
  kind := .ordinary
  loader := none
  accessFlags := 33
  super := sup
  interfaces := #[]
  cf := none
  fields := #[]
  methods := #[]
  instanceTypes := #[]
  staticTypes := #[]
  resolved := #[]
  callSites := []
  init := .initialized
  statics := none
  mirror := none

def pool0 : Array CpInfo := pool [(5, u "<init>"), (0, u "()V"), (1, .class_ 10), (1, u "java/lang/Object")] 113

def k0c0 : Code := { maxStack := 0, maxLocals := 1, code := object_method_1_code, exceptionTable := #[], attributes := #[] }
def k0m0 : Method := { name := "<init>", desc := "()V", sig := { parameters := [], returnType := none }, accessFlags := 1, code := some k0c0 }
/-- java/lang/Object -/
def k0 : Class := { plain "java/lang/Object" none with
  accessFlags := 33
  interfaces := #[]
  cf := some (fileOf pool0 8 #[] #[{ accessFlags := 1, nameIndex := 5, descriptorIndex := 6, attributes := #[] }] 33 0 #[] #[])
  fields := #[]
  methods := #[k0m0]
  instanceTypes := #[]
  staticTypes := #[]
  resolved := Array.replicate 124 none
  statics := none }

def pool1 : Array CpInfo := pool [(2, .class_ 4), (1, u "java/lang/Object"), (0, u "<init>"), (0, u "()V"), (0, .integer 2147483647), (0, .fieldref 9 10), (0, .class_ 11), (0, .nameAndType 12 13), (0, u "com/example/albizia/albizia/limits/LimitLevel"), (0, u "DATABASE"), (0, u "Lcom/example/albizia/albizia/limits/LimitLevel;"), (0, .fieldref 9 15), (0, .nameAndType 16 13), (0, u "SESSION"), (0, .fieldref 9 18), (0, .nameAndType 19 13), (0, u "STATEMENT"), (2, .long 9223372036854775807), (1, .class_ 25), (0, u "com/example/albizia/albizia/limits/Limit"), (0, .methodref 24 27), (0, .nameAndType 5 28), (0, u "(Lcom/example/albizia/albizia/limits/LimitLevel;J)V"), (0, .methodref 24 30), (0, .nameAndType 31 32), (0, u "isNone"), (0, u "()Z"), (0, .class_ 34), (0, u "com/example/albizia/albizia/limits/LimitIsNonePinLaw"), (2, u "law"), (0, u "(IJI)Z")] 3

def k1m0 : Method := { name := "<init>", desc := "()V", sig := { parameters := [], returnType := none }, accessFlags := 1, code := none }
def k1c1 : Code := { maxStack := 5, maxLocals := 10, code := code, exceptionTable := #[], attributes := #[] }
def k1m1 : Method := { name := "law", desc := "(IJI)Z", sig := { parameters := [.int, .long, .int], returnType := some .boolean }, accessFlags := 9, code := some k1c1 }
/-- com/example/albizia/albizia/limits/LimitIsNonePinLaw -/
def k1 : Class := { plain "com/example/albizia/albizia/limits/LimitIsNonePinLaw" (some 0) with
  accessFlags := 49
  interfaces := #[]
  cf := some (fileOf pool1 33 #[] #[{ accessFlags := 1, nameIndex := 5, descriptorIndex := 6, attributes := #[] }, { accessFlags := 9, nameIndex := 37, descriptorIndex := 38, attributes := #[] }] 49 2 #[] #[])
  fields := #[]
  methods := #[k1m0, k1m1]
  instanceTypes := #[]
  staticTypes := #[]
  resolved := Array.replicate 42 none
  statics := none }

def pool2 : Array CpInfo := pool [(1, .class_ 2), (0, u "java/lang/constant/Constable"), (0, .class_ 4), (0, u "java/lang/Object")] 6

/-- java/lang/constant/Constable -/
def k2 : Class := { plain "java/lang/constant/Constable" (some 0) with
  accessFlags := 1537
  interfaces := #[]
  cf := some (fileOf pool2 1 #[] #[] 1537 3 #[] #[])
  fields := #[]
  methods := #[]
  instanceTypes := #[]
  staticTypes := #[]
  resolved := Array.replicate 11 none
  statics := none }

def pool3 : Array CpInfo := pool [(1, .class_ 2), (0, u "java/lang/Comparable"), (0, .class_ 4), (0, u "java/lang/Object")] 7

/-- java/lang/Comparable -/
def k3 : Class := { plain "java/lang/Comparable" (some 0) with
  accessFlags := 1537
  interfaces := #[]
  cf := some (fileOf pool3 1 #[] #[] 1537 3 #[] #[])
  fields := #[]
  methods := #[]
  instanceTypes := #[]
  staticTypes := #[]
  resolved := Array.replicate 12 none
  statics := none }

def pool4 : Array CpInfo := pool [(1, .class_ 2), (0, u "java/io/Serializable"), (0, .class_ 4), (0, u "java/lang/Object")] 2

/-- java/io/Serializable -/
def k4 : Class := { plain "java/io/Serializable" (some 0) with
  accessFlags := 1537
  interfaces := #[]
  cf := some (fileOf pool4 1 #[] #[] 1537 3 #[] #[])
  fields := #[]
  methods := #[]
  instanceTypes := #[]
  staticTypes := #[]
  resolved := Array.replicate 7 none
  statics := none }

def pool5 : Array CpInfo := pool [(2, .class_ 4), (1, u "java/lang/Enum"), (0, u "name"), (0, u "Ljava/lang/String;"), (2, u "ordinal"), (0, u "I"), (1, .class_ 14), (1, u "java/lang/Object"), (4, u "hash"), (86, .class_ 108), (1, u "java/lang/Enum$EnumDesc"), (2, .class_ 112), (0, u "java/lang/constant/Constable"), (0, .class_ 114), (0, u "java/lang/Comparable"), (0, .class_ 116), (0, u "java/io/Serializable")] 87

/-- java/lang/Enum -/
def k5 : Class := { plain "java/lang/Enum" (some 0) with
  accessFlags := 1057
  interfaces := #[2, 3, 4]
  cf := some (fileOf pool5 2 #[.nestMembers #[106]] #[] 1057 12 #[111, 113, 115] #[{ accessFlags := 18, nameIndex := 5, descriptorIndex := 6, attributes := #[] }, { accessFlags := 18, nameIndex := 9, descriptorIndex := 10, attributes := #[] }, { accessFlags := 2, nameIndex := 19, descriptorIndex := 10, attributes := #[] }])
  fields := #[{ name := "name", type := (.object "java/lang/String"), accessFlags := 18, slot := 0, constantValue := 0 }, { name := "ordinal", type := .int, accessFlags := 18, slot := 1, constantValue := 0 }, { name := "hash", type := .int, accessFlags := 2, slot := 2, constantValue := 0 }]
  methods := #[]
  instanceTypes := #[(.object "java/lang/String"), .int, .int]
  staticTypes := #[]
  resolved := Array.replicate 204 none
  statics := none }

def pool6 : Array CpInfo := pool [(1, .class_ 2), (0, u "com/example/albizia/albizia/limits/LimitLevel"), (2, u "DATABASE"), (0, u "Lcom/example/albizia/albizia/limits/LimitLevel;"), (2, u "SESSION"), (2, u "STATEMENT"), (2, u "$VALUES"), (0, u "[Lcom/example/albizia/albizia/limits/LimitLevel;"), (6, .class_ 25), (1, u "java/lang/Enum")] 61

/-- com/example/albizia/albizia/limits/LimitLevel -/
def k6 : Class := { plain "com/example/albizia/albizia/limits/LimitLevel" (some 5) with
  accessFlags := 16433
  interfaces := #[]
  cf := some (fileOf pool6 1 #[] #[] 16433 23 #[] #[{ accessFlags := 16409, nameIndex := 5, descriptorIndex := 6, attributes := #[] }, { accessFlags := 16409, nameIndex := 9, descriptorIndex := 6, attributes := #[] }, { accessFlags := 16409, nameIndex := 12, descriptorIndex := 6, attributes := #[] }, { accessFlags := 4122, nameIndex := 15, descriptorIndex := 16, attributes := #[] }])
  fields := #[{ name := "DATABASE", type := (.object "com/example/albizia/albizia/limits/LimitLevel"), accessFlags := 16409, slot := 0, constantValue := 0 }, { name := "SESSION", type := (.object "com/example/albizia/albizia/limits/LimitLevel"), accessFlags := 16409, slot := 1, constantValue := 0 }, { name := "STATEMENT", type := (.object "com/example/albizia/albizia/limits/LimitLevel"), accessFlags := 16409, slot := 2, constantValue := 0 }, { name := "$VALUES", type := (.array (.object "com/example/albizia/albizia/limits/LimitLevel")), accessFlags := 4122, slot := 3, constantValue := 0 }]
  methods := #[]
  instanceTypes := #[(.object "java/lang/String"), .int, .int]
  staticTypes := #[(.object "com/example/albizia/albizia/limits/LimitLevel"), (.object "com/example/albizia/albizia/limits/LimitLevel"), (.object "com/example/albizia/albizia/limits/LimitLevel"), (.array (.object "com/example/albizia/albizia/limits/LimitLevel"))]
  resolved := Array.replicate 87 none
  statics := some 0 }

def pool7 : Array CpInfo := pool [(1, .methodref 2 3), (0, .class_ 4), (0, .nameAndType 5 6), (0, u "java/lang/Object"), (0, u "<init>"), (0, u "()V"), (0, .class_ 8), (0, u "java/lang/Record")] 13

def k7c0 : Code := { maxStack := 1, maxLocals := 1, code := jdk_30_method_1_code, exceptionTable := #[], attributes := #[] }
def k7m0 : Method := { name := "<init>", desc := "()V", sig := { parameters := [], returnType := none }, accessFlags := 4, code := some k7c0 }
/-- java/lang/Record -/
def k7 : Class := { plain "java/lang/Record" (some 0) with
  accessFlags := 1057
  interfaces := #[]
  cf := some (fileOf pool7 7 #[] #[{ accessFlags := 4, nameIndex := 5, descriptorIndex := 6, attributes := #[] }] 1057 2 #[] #[])
  fields := #[]
  methods := #[k7m0]
  instanceTypes := #[]
  staticTypes := #[]
  resolved := Array.replicate 22 none
  statics := none }

def pool8 : Array CpInfo := pool [(1, .methodref 2 3), (0, .class_ 4), (0, .nameAndType 5 6), (0, u "java/lang/Record"), (0, u "<init>"), (0, u "()V"), (0, .string 8), (0, u "level"), (0, .methodref 10 11), (0, .class_ 12), (0, .nameAndType 13 14), (0, u "java/util/Objects"), (0, u "requireNonNull"), (0, u "(Ljava/lang/Object;Ljava/lang/String;)Ljava/lang/Object;"), (0, .methodref 16 17), (0, .class_ 18), (0, .nameAndType 19 20), (0, u "com/example/albizia/albizia/limits/Limit"), (0, u "requireNotNegative"), (0, u "(Lcom/example/albizia/albizia/limits/LimitLevel;J)V"), (0, .fieldref 16 22), (0, .nameAndType 8 23), (0, u "Lcom/example/albizia/albizia/limits/LimitLevel;"), (0, .fieldref 16 25), (0, .nameAndType 26 27), (0, u "millis"), (0, u "J"), (49, u "isNone"), (0, u "()Z")] 35

def k8c0 : Code := { maxStack := 3, maxLocals := 4, code := prog_17_method_1_code, exceptionTable := #[], attributes := #[] }
def k8m0 : Method := { name := "<init>", desc := "(Lcom/example/albizia/albizia/limits/LimitLevel;J)V", sig := { parameters := [(.object "com/example/albizia/albizia/limits/LimitLevel"), .long], returnType := none }, accessFlags := 1, code := some k8c0 }
def k8c1 : Code := { maxStack := 4, maxLocals := 1, code := prog_17_method_4_code, exceptionTable := #[], attributes := #[] }
def k8m1 : Method := { name := "isNone", desc := "()Z", sig := { parameters := [], returnType := some .boolean }, accessFlags := 1, code := some k8c1 }
def k8c2 : Code := { maxStack := 5, maxLocals := 3, code := prog_17_method_5_code, exceptionTable := #[], attributes := #[] }
def k8m2 : Method := { name := "requireNotNegative", desc := "(Lcom/example/albizia/albizia/limits/LimitLevel;J)V", sig := { parameters := [(.object "com/example/albizia/albizia/limits/LimitLevel"), .long], returnType := none }, accessFlags := 9, code := some k8c2 }
/-- com/example/albizia/albizia/limits/Limit -/
def k8 : Class := { plain "com/example/albizia/albizia/limits/Limit" (some 7) with
  accessFlags := 49
  interfaces := #[]
  cf := some (fileOf pool8 16 #[] #[{ accessFlags := 1, nameIndex := 5, descriptorIndex := 20, attributes := #[] }, { accessFlags := 1, nameIndex := 77, descriptorIndex := 78, attributes := #[] }, { accessFlags := 9, nameIndex := 19, descriptorIndex := 20, attributes := #[] }] 49 2 #[] #[{ accessFlags := 18, nameIndex := 8, descriptorIndex := 23, attributes := #[] }, { accessFlags := 18, nameIndex := 26, descriptorIndex := 27, attributes := #[] }])
  fields := #[{ name := "level", type := (.object "com/example/albizia/albizia/limits/LimitLevel"), accessFlags := 18, slot := 0, constantValue := 0 }, { name := "millis", type := .long, accessFlags := 18, slot := 1, constantValue := 0 }]
  methods := #[k8m0, k8m1, k8m2]
  instanceTypes := #[(.object "com/example/albizia/albizia/limits/LimitLevel"), .long]
  staticTypes := #[]
  resolved := Array.replicate 114 none
  statics := none }

def pool9 : Array CpInfo := pool [(2, .class_ 4), (1, u "java/lang/CharSequence"), (42, .class_ 48), (0, u "java/lang/CharSequence$1CodePointIterator"), (10, .class_ 60), (0, u "java/lang/CharSequence$1CharIterator"), (5, .class_ 67), (0, u "java/lang/Object")] 63

/-- java/lang/CharSequence -/
def k9 : Class := { plain "java/lang/CharSequence" (some 0) with
  accessFlags := 1537
  interfaces := #[]
  cf := some (fileOf pool9 2 #[.nestMembers #[47, 59]] #[] 1537 66 #[] #[])
  fields := #[]
  methods := #[]
  instanceTypes := #[]
  staticTypes := #[]
  resolved := Array.replicate 131 none
  statics := none }

def pool10 : Array CpInfo := pool [(1, .class_ 2), (0, u "java/lang/constant/ConstantDesc"), (0, .class_ 4), (0, u "java/lang/Object")] 32

/-- java/lang/constant/ConstantDesc -/
def k10 : Class := { plain "java/lang/constant/ConstantDesc" (some 0) with
  accessFlags := 1537
  interfaces := #[]
  cf := some (fileOf pool10 1 #[] #[] 1537 3 #[] #[])
  fields := #[]
  methods := #[]
  instanceTypes := #[]
  staticTypes := #[]
  resolved := Array.replicate 37 none
  statics := none }

def pool11 : Array CpInfo := pool [(2, .class_ 4), (1, u "java/lang/Object"), (0, u "<init>"), (0, u "()V"), (3, .class_ 12), (1, u "java/lang/String"), (0, u "value"), (0, u "[B"), (2, u "coder"), (0, u "B"), (2, u "hash"), (0, u "I"), (2, u "hashIsZero"), (0, u "Z"), (13, u "COMPACT_STRINGS"), (534, .class_ 576), (0, u "java/lang/CharSequence"), (22, u "CASE_INSENSITIVE_ORDER"), (0, u "Ljava/util/Comparator;"), (500, u "serialPersistentFields"), (0, u "[Ljava/io/ObjectStreamField;"), (0, .class_ 1104), (0, u "java/lang/String$CaseInsensitiveComparator"), (1, .class_ 1107), (0, u "java/io/Serializable"), (0, .class_ 1109), (0, u "java/lang/Comparable"), (0, .class_ 1111), (0, u "java/lang/constant/Constable"), (0, .class_ 1113), (0, u "java/lang/constant/ConstantDesc"), (2, u "serialVersionUID"), (0, u "J"), (3, u "REPL"), (0, u "C"), (2, u "LATIN1"), (1, u "UTF16")] 323

def k11m0 : Method := { name := "<init>", desc := "()V", sig := { parameters := [], returnType := none }, accessFlags := 1, code := none }
/-- java/lang/String -/
def k11 : Class := { plain "java/lang/String" (some 0) with
  accessFlags := 49
  interfaces := #[4, 3, 9, 2, 10]
  cf := some (fileOf pool11 10 #[.nestMembers #[1103]] #[{ accessFlags := 1, nameIndex := 5, descriptorIndex := 6, attributes := #[] }] 49 2 #[1106, 1108, 575, 1110, 1112] #[{ accessFlags := 18, nameIndex := 13, descriptorIndex := 14, attributes := #[] }, { accessFlags := 18, nameIndex := 17, descriptorIndex := 18, attributes := #[] }, { accessFlags := 2, nameIndex := 21, descriptorIndex := 22, attributes := #[] }, { accessFlags := 2, nameIndex := 25, descriptorIndex := 26, attributes := #[] }, { accessFlags := 26, nameIndex := 1116, descriptorIndex := 1117, attributes := #[] }, { accessFlags := 24, nameIndex := 40, descriptorIndex := 26, attributes := #[] }, { accessFlags := 26, nameIndex := 1101, descriptorIndex := 1102, attributes := #[] }, { accessFlags := 26, nameIndex := 1121, descriptorIndex := 1122, attributes := #[] }, { accessFlags := 25, nameIndex := 599, descriptorIndex := 600, attributes := #[] }, { accessFlags := 24, nameIndex := 1125, descriptorIndex := 18, attributes := #[] }, { accessFlags := 24, nameIndex := 1127, descriptorIndex := 18, attributes := #[] }])
  fields := #[{ name := "value", type := (.array .byte), accessFlags := 18, slot := 0, constantValue := 0 }, { name := "coder", type := .byte, accessFlags := 18, slot := 1, constantValue := 0 }, { name := "hash", type := .int, accessFlags := 2, slot := 2, constantValue := 0 }, { name := "hashIsZero", type := .boolean, accessFlags := 2, slot := 3, constantValue := 0 }, { name := "serialVersionUID", type := .long, accessFlags := 26, slot := 0, constantValue := 0 }, { name := "COMPACT_STRINGS", type := .boolean, accessFlags := 24, slot := 1, constantValue := 0 }, { name := "serialPersistentFields", type := (.array (.object "java/io/ObjectStreamField")), accessFlags := 26, slot := 2, constantValue := 0 }, { name := "REPL", type := .char, accessFlags := 26, slot := 3, constantValue := 0 }, { name := "CASE_INSENSITIVE_ORDER", type := (.object "java/util/Comparator"), accessFlags := 25, slot := 4, constantValue := 0 }, { name := "LATIN1", type := .byte, accessFlags := 24, slot := 5, constantValue := 0 }, { name := "UTF16", type := .byte, accessFlags := 24, slot := 6, constantValue := 0 }]
  methods := #[k11m0]
  instanceTypes := #[(.array .byte), .byte, .int, .boolean]
  staticTypes := #[.long, .boolean, (.array (.object "java/io/ObjectStreamField")), .char, (.object "java/util/Comparator"), .byte, .byte]
  resolved := Array.replicate 1451 none
  statics := none }

def pool12 : Array CpInfo := pool [(2, .class_ 4), (1, u "java/lang/Object"), (0, u "<init>"), (0, u "()V"), (35, .class_ 44), (1, u "java/util/Objects"), (0, u "requireNonNull"), (48, u "(Ljava/lang/Object;Ljava/lang/String;)Ljava/lang/Object;")] 89

def k12m0 : Method := { name := "<init>", desc := "()V", sig := { parameters := [], returnType := none }, accessFlags := 2, code := none }
def k12c1 : Code := { maxStack := 3, maxLocals := 2, code := jdk_31_method_11_code, exceptionTable := #[], attributes := #[] }
def k12m1 : Method := { name := "requireNonNull", desc := "(Ljava/lang/Object;Ljava/lang/String;)Ljava/lang/Object;", sig := { parameters := [(.object "java/lang/Object"), (.object "java/lang/String")], returnType := some (.object "java/lang/Object") }, accessFlags := 9, code := some k12c1 }
/-- java/util/Objects -/
def k12 : Class := { plain "java/util/Objects" (some 0) with
  accessFlags := 49
  interfaces := #[]
  cf := some (fileOf pool12 42 #[] #[{ accessFlags := 2, nameIndex := 5, descriptorIndex := 6, attributes := #[] }, { accessFlags := 9, nameIndex := 45, descriptorIndex := 94, attributes := #[] }] 49 2 #[] #[])
  fields := #[]
  methods := #[k12m0, k12m1]
  instanceTypes := #[]
  staticTypes := #[]
  resolved := Array.replicate 184 none
  statics := none }

def pool13 : Array CpInfo := pool [(1, u "java/lang/Cloneable"), (0, .class_ 1), (0, u "java/lang/Object"), (0, .class_ 3)] 3

/-- java/lang/Cloneable -/
def k13 : Class := { plain "java/lang/Cloneable" (some 0) with
  accessFlags := 1537
  interfaces := #[]
  cf := some (fileOf pool13 2 #[] #[] 1537 4 #[] #[])
  fields := #[]
  methods := #[]
  instanceTypes := #[]
  staticTypes := #[]
  resolved := Array.replicate 8 none
  statics := none }

/-- the primitive byte -/
def k14 : Class := { plain "byte" none with kind := .primitive 'B', accessFlags := 0x411 }
/-- [B -/
def k15 : Class := { plain "[B" (some 0) with kind := .array 14 .byte, interfaces := #[13, 4], accessFlags := 1041 }

def heap : Heap := #[{ cls := 6, slots := #[.ref 1, .ref 2, .ref 3, .null], vm := .statics 6 },
  { cls := 6, slots := #[.null, .int 0, .int 0], vm := .none },
  { cls := 6, slots := #[.null, .int 1, .int 0], vm := .none },
  { cls := 6, slots := #[.null, .int 2, .int 0], vm := .none }]
def classes : Array Class := #[k0, k1, k2, k3, k4, k5, k6, k7, k8, k9, k10, k11, k12, k13, k14, k15]
def interned : List (Array UInt16 × Addr) := []
def slotsUsed : Nat := 13
def theMethod : MethodId := ⟨1, 1⟩
def args0 : Array Value := #[.int 5, .long 7, .int 2]
def aboutOver (below : List Frame) : State where
  vm := { classes := classes, interned := interned.toArray }
  heap := heap
  slotsUsed := slotsUsed
  threads := #[{ frames := .invoking theMethod args0 :: below }]
def below0 : List Frame := [.native { method := ⟨0, 0⟩, args := #[] }]
def about1 : State := aboutOver below0
def p0 : Program := .bare "" "" ""
def e0 : Env := launch0.env 0 0 0
theorem w_frames : about1.frames = Frame.invoking theMethod args0 :: below0 := rfl
set_option maxRecDepth 65536 in
theorem w_args : argsFit about1.vm theMethod args0 = true := by decide +kernel
set_option maxRecDepth 65536 in
theorem w_heap : heapFits about1 = true := by decide +kernel
set_option maxRecDepth 65536 in
theorem w_runnable : about1.curStatus? = some .runnable := by decide +kernel
set_option maxRecDepth 65536 in
theorem w_alone : about1.alone = true := by decide +kernel
set_option maxRecDepth 65536 in
theorem w_named : about1.methodNamed? x = some theMethod := by decide +kernel
set_option maxRecDepth 65536 in
theorem w_hears : about1.hears theMethod below0 = true := by decide +kernel
set_option maxRecDepth 65536 in
theorem w_ripe : about1.ripe theMethod args0 below0 = true := by decide +kernel
theorem w_running : about1.status = .running := rfl
set_option maxRecDepth 65536 in
theorem w_room : about1.hasRoom e0.platform room_1 = true :=
  launch0.hasRoom_least _ room_1 (by decide +kernel) (by decide +kernel) (by decide +kernel) (by decide +kernel) (by decide +kernel) (by decide +kernel)
theorem allAtoms_all (ts : List Jvm.Cond) (a : Array Jvm.Value) (st : Jvm.State) : (allAtoms ts).before a st = ts.all (fun c => c.before a st) := by
  induction ts with
  | nil => rfl
  | cons c t ih =>
    show (Jvm.Cond.and c (allAtoms t)).before a st = _
    rw [Jvm.Cond.before_and, ih, List.all_cons]
def words1 : List Jvm.Cond := Jvm.Cond.code x code maxLocals ret :: tables_1
/-- a 'code' word, met by the world's own term for the bytes: nothing is compared byte by byte -/
theorem code_word {y : MethodName} {bytes : ByteArray} {mx : Nat} {rt : Option FieldType} {a : Array Value} {s : State} {m : MethodId} {meth : Method} {c : Code} (h1 : s.methodNamed? y = some m) (h2 : s.vm.method? m = some meth) (h3 : meth.code = some c) (h4 : c.code = bytes)
    (h5 : (c.maxLocals == mx && c.exceptionTable.isEmpty && decide (c.maxStack ≤ mostOperands) && decide (meth.sig.returnType = rt) && !meth.locks && decide (parseMethodDescriptor y.desc = some meth.sig)) = true) : (Jvm.Cond.code y bytes mx rt).before a s = true := by
  simp only [Bool.and_eq_true, beq_iff_eq, Bool.not_eq_true', decide_eq_true_eq] at h5
  obtain ⟨⟨⟨⟨⟨g1, g2⟩, g3⟩, g4⟩, g5⟩, g6⟩ := h5
  simp [Cond.before, Cond.holds, Cond.value, h1, h2, h3, h4, g1, g2, g3, g4, g5, g6]
def isCode : Jvm.Cond → Bool
  | .code _ _ _ _ => true
  | _ => false
theorem all_split {L : List Jvm.Cond} {P : Jvm.Cond → Bool} (h1 : L.all (fun c => isCode c || P c) = true) (h2 : ∀ c ∈ L.filter isCode, P c = true) : L.all P = true := by
  refine List.all_eq_true.mpr fun c hc => ?_
  have h := List.all_eq_true.mp h1 c hc
  rcases Bool.eq_false_or_eq_true (isCode c) with hi | hi
  · exact h2 c (List.mem_filter.mpr ⟨hc, hi⟩)
  · simpa [hi] using h
set_option maxRecDepth 65536 in
theorem w_c0 : (Jvm.Cond.code x code maxLocals ret).before args0 about1 = true := code_word (m := ⟨1, 1⟩) (meth := k1m1) (c := k1c1) (by decide +kernel) rfl rfl rfl (by decide +kernel)
set_option maxRecDepth 65536 in
theorem w_c1 : (Jvm.Cond.code ({ cls := "com/example/albizia/albizia/limits/Limit", name := "<init>", desc := "(Lcom/example/albizia/albizia/limits/LimitLevel;J)V" } : Jvm.MethodName) prog_17_method_1_code (4 : Nat) (Option.none : Option Jvm.ClassFile.FieldType)).before args0 about1 = true := code_word (m := ⟨8, 0⟩) (meth := k8m0) (c := k8c0) (by decide +kernel) rfl rfl rfl (by decide +kernel)
set_option maxRecDepth 65536 in
theorem w_c2 : (Jvm.Cond.code ({ cls := "java/lang/Record", name := "<init>", desc := "()V" } : Jvm.MethodName) jdk_30_method_1_code (1 : Nat) (Option.none : Option Jvm.ClassFile.FieldType)).before args0 about1 = true := code_word (m := ⟨7, 0⟩) (meth := k7m0) (c := k7c0) (by decide +kernel) rfl rfl rfl (by decide +kernel)
set_option maxRecDepth 65536 in
theorem w_c3 : (Jvm.Cond.code ({ cls := "java/lang/Object", name := "<init>", desc := "()V" } : Jvm.MethodName) object_method_1_code (1 : Nat) (Option.none : Option Jvm.ClassFile.FieldType)).before args0 about1 = true := code_word (m := ⟨0, 0⟩) (meth := k0m0) (c := k0c0) (by decide +kernel) rfl rfl rfl (by decide +kernel)
set_option maxRecDepth 65536 in
theorem w_c4 : (Jvm.Cond.code ({ cls := "java/util/Objects", name := "requireNonNull", desc := "(Ljava/lang/Object;Ljava/lang/String;)Ljava/lang/Object;" } : Jvm.MethodName) jdk_31_method_11_code (2 : Nat) (Option.some (Jvm.ClassFile.FieldType.object "java/lang/Object"))).before args0 about1 = true := code_word (m := ⟨12, 1⟩) (meth := k12m1) (c := k12c1) (by decide +kernel) rfl rfl rfl (by decide +kernel)
set_option maxRecDepth 65536 in
theorem w_c5 : (Jvm.Cond.code ({ cls := "com/example/albizia/albizia/limits/Limit", name := "requireNotNegative", desc := "(Lcom/example/albizia/albizia/limits/LimitLevel;J)V" } : Jvm.MethodName) prog_17_method_5_code (3 : Nat) (Option.none : Option Jvm.ClassFile.FieldType)).before args0 about1 = true := code_word (m := ⟨8, 2⟩) (meth := k8m2) (c := k8c2) (by decide +kernel) rfl rfl rfl (by decide +kernel)
set_option maxRecDepth 65536 in
theorem w_c6 : (Jvm.Cond.code ({ cls := "com/example/albizia/albizia/limits/Limit", name := "isNone", desc := "()Z" } : Jvm.MethodName) prog_17_method_4_code (1 : Nat) (Option.some Jvm.ClassFile.FieldType.boolean)).before args0 about1 = true := code_word (m := ⟨8, 1⟩) (meth := k8m1) (c := k8c1) (by decide +kernel) rfl rfl rfl (by decide +kernel)
def codes1 : List Jvm.Cond := [Jvm.Cond.code x code maxLocals ret, Jvm.Cond.code ({ cls := "com/example/albizia/albizia/limits/Limit", name := "<init>", desc := "(Lcom/example/albizia/albizia/limits/LimitLevel;J)V" } : Jvm.MethodName) prog_17_method_1_code (4 : Nat) (Option.none : Option Jvm.ClassFile.FieldType), Jvm.Cond.code ({ cls := "java/lang/Record", name := "<init>", desc := "()V" } : Jvm.MethodName) jdk_30_method_1_code (1 : Nat) (Option.none : Option Jvm.ClassFile.FieldType), Jvm.Cond.code ({ cls := "java/lang/Object", name := "<init>", desc := "()V" } : Jvm.MethodName) object_method_1_code (1 : Nat) (Option.none : Option Jvm.ClassFile.FieldType), Jvm.Cond.code ({ cls := "java/util/Objects", name := "requireNonNull", desc := "(Ljava/lang/Object;Ljava/lang/String;)Ljava/lang/Object;" } : Jvm.MethodName) jdk_31_method_11_code (2 : Nat) (Option.some (Jvm.ClassFile.FieldType.object "java/lang/Object")), Jvm.Cond.code ({ cls := "com/example/albizia/albizia/limits/Limit", name := "requireNotNegative", desc := "(Lcom/example/albizia/albizia/limits/LimitLevel;J)V" } : Jvm.MethodName) prog_17_method_5_code (3 : Nat) (Option.none : Option Jvm.ClassFile.FieldType), Jvm.Cond.code ({ cls := "com/example/albizia/albizia/limits/Limit", name := "isNone", desc := "()Z" } : Jvm.MethodName) prog_17_method_4_code (1 : Nat) (Option.some Jvm.ClassFile.FieldType.boolean)]
set_option maxRecDepth 65536 in
theorem codes_eq : words1.filter isCode = codes1 := rfl
theorem w_codes : ∀ c ∈ words1.filter isCode, c.before args0 about1 = true := by
  rw [codes_eq]
  intro c hc
  simp only [codes1, List.mem_cons, List.not_mem_nil, or_false] at hc
  rcases hc with rfl | rfl | rfl | rfl | rfl | rfl | rfl
  · exact w_c0
  · exact w_c1
  · exact w_c2
  · exact w_c3
  · exact w_c4
  · exact w_c5
  · exact w_c6
set_option maxRecDepth 65536 in
theorem w_t1 : (words1.take 24).all (fun c => isCode c || c.before args0 about1) = true := by decide +kernel
set_option maxRecDepth 65536 in
theorem w_t2 : (words1.drop 24).all (fun c => isCode c || c.before args0 about1) = true := by decide +kernel
theorem w_tables : (allAtoms (Jvm.Cond.code x code maxLocals ret :: tables_1)).before args0 about1 = true := by
  rw [allAtoms_all]
  show words1.all (fun c => c.before args0 about1) = true
  refine all_split ?_ w_codes
  rw [← List.take_append_drop 24 words1, List.all_append, w_t1, w_t2]
  rfl
set_option maxRecDepth 65536 in
theorem w_case : (Jvm.Cond.and given_1 narrow_1).before args0 about1 = true := by decide +kernel
theorem w_applies : (headSpec (Jvm.Cond.code x code maxLocals ret :: tables_1) room_1).applies x e0.platform about1 = true :=
  (Spec.applies_iff w_frames).mpr ⟨w_running, w_runnable, w_alone, w_named, w_hears, w_ripe, w_room, w_tables⟩
theorem atStart : AtStart classFile x code maxLocals ret World_1 tables_1 room_1 Calls_1 rest_1 Pre_1 launch0 p0 e0 about1 theMethod args0 below0 :=
  ⟨lists_1, trivial, launch0.admits_env _ _ _, launch0.least_env, fairChoices_fair.cas, fairChoices_fair.clock, w_frames, w_args, w_heap, w_applies, trivial, trivial, w_case⟩
end start1
theorem witness_1 : WitnessClaimed_1 := ⟨start1.p0, start1.e0, start1.about1, start1.theMethod, start1.args0, start1.below0, start1.atStart⟩
end Jvm.Pilot.@@N@@
