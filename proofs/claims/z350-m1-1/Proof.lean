import JvmDerived
import JvmDerived.Pilot.@@N@@Statement
import JvmDerived.Pilot.@@N@@Code
set_option linter.unusedVariables false
set_option linter.unusedSimpArgs false
namespace Jvm.RoadKit
open Sem ClassFile Op Lib Jvm.Stand Jvm.Free Jvm.LawKit
section New
variable {p : Program} {l : Launch} {e : Env} {R : Room} {s : State} {m : MethodId} {args : Array Value} {below : List Frame} {meth : Method} {c : Code} {T : State} {locs : List Loc} {cells slots : Nat}
theorem retI (X : Stand p l e R s m args below meth c T locs cells slots) (hx : p.tables.exec = Jvm.exec) {pc : Nat} {Ls : Array Slot} {z : Int32} {rest : List Value} (hret : meth.sig.returnType = some .int) (hd : decode c.code pc = .ok (.ireturn, 1)) {fs : List Frame}
    (hl : ∀ (f : JFrame) (acts : List Action), f.method = m → f.locked = none → f.entered = [] → (doReturn e (T.setTop f) acts (some (.int z))).1 = T.setFrames fs) : Steps p.tables e below (T.setTop (mkF m pc Ls (.int z :: rest))) (T.setFrames fs) := by
  have hm' : T.vm.method? m = some meth := X.method'
  have hn : narrow .int (.int z) = .int z := rfl
  show Steps p.tables e below (T.setTop { method := m, pc := pc, locals := Ls, stack := _ :: rest, locked := none }) _
  jvm_step X.here [X.here.top, hx, hd, hm', hret, hn]
  first | (intro acts; rw [hl _ acts rfl rfl rfl]) | rw [hl _ _ rfl rfl rfl]
  exact Steps.refl _
end New
end Jvm.RoadKit
namespace Jvm.Pilot.@@N@@
open Jvm Jvm.ClassFile Sem Op Lib Jvm.Free Jvm.Stand Jvm.LawKit Jvm.RoadKit Bundle Jvm.Pilot.@@N@@.Jvm.D

theorem own_fldI {Z : State} {args : Array Value} {t : Term} {C n d : String} {k : Int32} {a : Addr} (ev : t.eval args Z none [] Z = some (.ref a)) (h : (Cond.eq (.field t C n d) (.int k)).value args Z none Z [] = some true) : Fld Z Z.heap a C n d (.int k) := by
  obtain ⟨x, y, h1, h2, k1, k2⟩ := cmp_v (Or.inl h)
  have e2 : y = .int k := (Option.some.inj (h2.symm.trans (Term.int_eval k)))
  subst e2
  obtain ⟨z, rfl⟩ : ∃ z, x = .int z := k2
  have e3 : z = k := gotT (Cond.eq_ints h1 h2) h
  subst e3
  exact Fld.start ((fld_at ev).symm.trans h1)

theorem own_len {Z : State} {args : Array Value} {t : Term} {k : Int32} {a : Addr} {c : Cell} {ty : FieldType} (ev : t.eval args Z none [] Z = some (.ref a)) (A : Arr Z Z.heap a c ty) (h : (Cond.eq (.length t) (.int k)).value args Z none Z [] = some true) : c.slots.size < 2 ^ 31 ∧ c.slots.size.toInt32 = k := by
  obtain ⟨x, y, h1, h2, k1, k2⟩ := cmp_v (Or.inl h)
  have e2 : y = .int k := (Option.some.inj (h2.symm.trans (Term.int_eval k)))
  subst e2
  obtain ⟨z, rfl⟩ : ∃ z, x = .int z := k2
  have e3 : z = k := gotT (Cond.eq_ints h1 h2) h
  subst e3
  have hA : Z.arrayAt? a = some c := A.fin (Vm.Alike.refl _)
  by_cases hl : c.slots.size < 2 ^ 31
  · have q := (len_f ev hA hl).symm.trans h1
    exact ⟨hl, Value.int.inj (Option.some.inj q)⟩
  · exfalso
    have q : (Term.length t).eval args Z none [] Z = none := by simp [Term.eval, ev, hA, hl]
    rw [q] at h1; cases h1
theorem own_elem {Z : State} {args : Array Value} {t u : Term} {k : Int32} {a b : Addr} {c : Cell} {ty : FieldType} (ev : t.eval args Z none [] Z = some (.ref a)) (A : Arr Z Z.heap a c ty) (eu : u.eval args Z none [] Z = some (.ref b)) (h : (Cond.eq (.elem t (.int k)) u).value args Z none Z [] = some true) : c.slots[k.toNatClampNeg]? = some (.ref b) := by
  obtain ⟨x, y, h1, h2, k1, k2⟩ := cmp_v (Or.inl h)
  have e2 : y = .ref b := Option.some.inj (h2.symm.trans eu)
  subst e2
  have hx : x.isRef = true := k2.2
  have e3 : x = .ref b := gotT (eq_R h1 h2 hx rfl) h
  subst e3
  exact (elem_in h1 ev (Term.int_eval k) A.1).2
def own_g (j : Nat) : Int32 := ([1, 2, 3, 4, 5, 6, 7, 8, 9, 11, 12, 13, 14, 15, 100, 101, -11] : List Int32).getD j 0
theorem own_inj : ∀ i, i < 17 → ∀ j, j < 17 → own_g i = own_g j → i = j := by decide +kernel
theorem own_i : ∀ i, i < 17 → (Int32.ofNat i).toNatClampNeg = i ∧ ¬ Int32.ofNat i < 0 ∧ Int32.ofNat i < 17 ∧ Int32.ofNat i + (1 : Int32) = Int32.ofNat (i + 1) := by decide +kernel
/-- what stands of the table and its constants -/
def OpF (Z : State) (h : Heap) (aA : Addr) (cl : Cell) (w : Nat → Addr) : Prop := Sta Z h "com/example/ulmus/ulmus/core/wire/OpCode" "ALL" "[Lcom/example/ulmus/ulmus/core/wire/OpCode;" (.ref aA) ∧ Arr Z h aA cl (.object "com/example/ulmus/ulmus/core/wire/OpCode") ∧ cl.slots.size = 17 ∧ (∀ j, j < 17 → cl.slots[j]? = some (.ref (w j)) ∧ Fld Z h (w j) "com/example/ulmus/ulmus/core/wire/OpCode" "type" "I" (.int (own_g j))) ∧ Sta Z h "com/example/ulmus/ulmus/core/wire/OpCode" "CREATE" "Lcom/example/ulmus/ulmus/core/wire/OpCode;" (.ref (w 0)) ∧ Sta Z h "com/example/ulmus/ulmus/core/wire/OpCode" "DELETE" "Lcom/example/ulmus/ulmus/core/wire/OpCode;" (.ref (w 1)) ∧ Sta Z h "com/example/ulmus/ulmus/core/wire/OpCode" "EXISTS" "Lcom/example/ulmus/ulmus/core/wire/OpCode;" (.ref (w 2)) ∧ Sta Z h "com/example/ulmus/ulmus/core/wire/OpCode" "GET_DATA" "Lcom/example/ulmus/ulmus/core/wire/OpCode;" (.ref (w 3)) ∧ Sta Z h "com/example/ulmus/ulmus/core/wire/OpCode" "SET_DATA" "Lcom/example/ulmus/ulmus/core/wire/OpCode;" (.ref (w 4)) ∧ Sta Z h "com/example/ulmus/ulmus/core/wire/OpCode" "GET_ACL" "Lcom/example/ulmus/ulmus/core/wire/OpCode;" (.ref (w 5)) ∧ Sta Z h "com/example/ulmus/ulmus/core/wire/OpCode" "SET_ACL" "Lcom/example/ulmus/ulmus/core/wire/OpCode;" (.ref (w 6)) ∧ Sta Z h "com/example/ulmus/ulmus/core/wire/OpCode" "GET_CHILDREN" "Lcom/example/ulmus/ulmus/core/wire/OpCode;" (.ref (w 7)) ∧ Sta Z h "com/example/ulmus/ulmus/core/wire/OpCode" "SYNC" "Lcom/example/ulmus/ulmus/core/wire/OpCode;" (.ref (w 8)) ∧ Sta Z h "com/example/ulmus/ulmus/core/wire/OpCode" "PING" "Lcom/example/ulmus/ulmus/core/wire/OpCode;" (.ref (w 9)) ∧ Sta Z h "com/example/ulmus/ulmus/core/wire/OpCode" "GET_CHILDREN2" "Lcom/example/ulmus/ulmus/core/wire/OpCode;" (.ref (w 10)) ∧ Sta Z h "com/example/ulmus/ulmus/core/wire/OpCode" "CHECK" "Lcom/example/ulmus/ulmus/core/wire/OpCode;" (.ref (w 11)) ∧ Sta Z h "com/example/ulmus/ulmus/core/wire/OpCode" "MULTI" "Lcom/example/ulmus/ulmus/core/wire/OpCode;" (.ref (w 12)) ∧ Sta Z h "com/example/ulmus/ulmus/core/wire/OpCode" "CREATE2" "Lcom/example/ulmus/ulmus/core/wire/OpCode;" (.ref (w 13)) ∧ Sta Z h "com/example/ulmus/ulmus/core/wire/OpCode" "AUTH" "Lcom/example/ulmus/ulmus/core/wire/OpCode;" (.ref (w 14)) ∧ Sta Z h "com/example/ulmus/ulmus/core/wire/OpCode" "SET_WATCHES" "Lcom/example/ulmus/ulmus/core/wire/OpCode;" (.ref (w 15)) ∧ Sta Z h "com/example/ulmus/ulmus/core/wire/OpCode" "CLOSE_SESSION" "Lcom/example/ulmus/ulmus/core/wire/OpCode;" (.ref (w 16))
theorem OpF.ext {Z : State} {h h' : Heap} {aA : Addr} {cl : Cell} {w : Nat → Addr} (F : OpF Z h aA cl w) (E : Ext h h') : OpF Z h' aA cl w := by
  obtain ⟨S, A, N, H, s0, s1, s2, s3, s4, s5, s6, s7, s8, s9, s10, s11, s12, s13, s14, s15, s16⟩ := F
  exact ⟨S.ext E, A.ext E, N, fun j hj => ⟨(H j hj).1, (H j hj).2.ext E⟩, s0.ext E, s1.ext E, s2.ext E, s3.ext E, s4.ext E, s5.ext E, s6.ext E, s7.ext E, s8.ext E, s9.ext E, s10.ext E, s11.ext E, s12.ext E, s13.ext E, s14.ext E, s15.ext E, s16.ext E⟩
/-- which constant a number stands for -/
def Spc (w : Nat → Addr) (p : Int32) (vv : Value) : Prop := (∃ k, k < 17 ∧ own_g k = p ∧ vv = .ref (w k)) ∨ (vv = .null ∧ ∀ k, k < 17 → own_g k ≠ p)

theorem d1_0 : decode prog_115_method_6_code 0 = .ok (.getstatic 82, 3) := by decide +kernel
theorem d1_3 : decode prog_115_method_6_code 3 = .ok (.astore_n 1, 1) := by decide +kernel
theorem d1_4 : decode prog_115_method_6_code 4 = .ok (.aload_n 1, 1) := by decide +kernel
theorem d1_5 : decode prog_115_method_6_code 5 = .ok (.arraylength, 1) := by decide +kernel
theorem d1_6 : decode prog_115_method_6_code 6 = .ok (.istore_n 2, 1) := by decide +kernel
theorem d1_7 : decode prog_115_method_6_code 7 = .ok (.iconst 0, 1) := by decide +kernel
theorem d1_8 : decode prog_115_method_6_code 8 = .ok (.istore_n 3, 1) := by decide +kernel
theorem d1_9 : decode prog_115_method_6_code 9 = .ok (.iload_n 3, 1) := by decide +kernel
theorem d1_10 : decode prog_115_method_6_code 10 = .ok (.iload_n 2, 1) := by decide +kernel
theorem d1_11 : decode prog_115_method_6_code 11 = .ok (.if_icmp .ge 26, 3) := by decide +kernel
theorem d1_37 : decode prog_115_method_6_code 37 = .ok (.aconst_null, 1) := by decide +kernel
theorem d1_38 : decode prog_115_method_6_code 38 = .ok (.areturn, 1) := by decide +kernel
theorem pn_1 : plainName "com/example/ulmus/ulmus/core/wire/OpCode" = true := by first | (simp [plainName, overriddenIn]; done) | decide +kernel
theorem ef_1 (m : MethodId) (x0 : Int32) : entryFrame m #[(.int x0)] 5 = mkF m 0 #[.val (.int x0), .unset, .unset, .unset, .unset] [] := by first | (simp [entryFrame, mkF, argsToLocals, Value.category]; done) | rfl
theorem d1_14 : decode prog_115_method_6_code 14 = .ok (.aload_n 1, 1) := by decide +kernel
theorem d1_15 : decode prog_115_method_6_code 15 = .ok (.iload_n 3, 1) := by decide +kernel
theorem d1_16 : decode prog_115_method_6_code 16 = .ok (.aaload, 1) := by decide +kernel
theorem d1_17 : decode prog_115_method_6_code 17 = .ok (.astore 4, 2) := by decide +kernel
theorem d1_19 : decode prog_115_method_6_code 19 = .ok (.aload 4, 2) := by decide +kernel
theorem d1_21 : decode prog_115_method_6_code 21 = .ok (.getfield 74, 3) := by decide +kernel
theorem d1_24 : decode prog_115_method_6_code 24 = .ok (.iload_n 0, 1) := by decide +kernel
theorem d1_25 : decode prog_115_method_6_code 25 = .ok (.if_icmp .ne 6, 3) := by decide +kernel
theorem d1_31 : decode prog_115_method_6_code 31 = .ok (.iinc 3 1, 3) := by decide +kernel
theorem d1_34 : decode prog_115_method_6_code 34 = .ok (.goto (-25), 3) := by decide +kernel
theorem d1_28 : decode prog_115_method_6_code 28 = .ok (.aload 4, 2) := by decide +kernel
theorem d1_30 : decode prog_115_method_6_code 30 = .ok (.areturn, 1) := by decide +kernel

theorem os1_17 {z0 : Value} {z1 : Value} {z2 : Value} {z3 : Value} {s4 : Slot} {v : Addr} (h : One s4) : storeLocals #[.val z0, .val z1, .val z2, .val z3, s4] 4 (.ref v) = some #[.val z0, .val z1, .val z2, .val z3, .val (.ref v)] := by
  rcases h with rfl | ⟨w, rfl, hw⟩
  · rfl
  · cases w <;> first | rfl | (simp [Value.category] at hw)


set_option maxRecDepth 65536 in
set_option maxHeartbeats 40000000 in
theorem tn1_9_9 {p : Program} {l : Launch} {e : Env} {R : Room} {s : State} {m : MethodId} {args : Array Value} {below : List Frame} {meth : Method} {c : Code} {T0 : State} {locs : List Loc} {cells slots : Nat} {Z : State} {a0 : Array Value} {h0 : Heap} (i0 : Int32) (o1 : Addr) (i2 : Int32) (i3 : Int32) (s4 : Slot) (w2 : Addr) (cl_o1 : Cell) (w3 : Int32)
    (X0 : Stand p l e R s m args below meth c T0 locs cells slots) (hx : p.tables.exec = Jvm.exec) (hZ : Z.Warmed39 s.vm) (hw : ∀ d ∈ tables_1, d.before a0 Z = true) (hby : c.code = prog_115_method_6_code) (hml : c.maxLocals = 5) (hown : s.vm.findClass "com/example/ulmus/ulmus/core/wire/OpCode" = some m.cls) (e0 : T0.heap = h0) (Ar_o1 : Arr Z h0 o1 cl_o1 (.object "com/example/ulmus/ulmus/core/wire/OpCode")) (hin16 : ¬ (i3 < 0 ∨ cl_o1.slots.size ≤ (i3).toNatClampNeg)) (hat16 : cl_o1.slots[(i3).toNatClampNeg]? = some (.ref w2)) (hs4 : One s4) (F_type_w2 : Fld Z h0 w2 "com/example/ulmus/ulmus/core/wire/OpCode" "type" "I" (.int w3)) (hc11 : i3 < i2) (hc25 : ¬ (w3 = i0)) :
    ∃ (T' : State), Stand p l e R s m args below meth c T' locs cells slots ∧ T'.heap = h0 ∧
      ∀ target, Steps p.tables e below (T'.setTop (mkF m 9 #[.val (.int i0), .val (.ref o1), .val (.int i2), .val (.int (i3 + (1 : Int32))), .val (.ref w2)] [])) target → Steps p.tables e below (T0.setTop (mkF m 9 #[.val (.int i0), .val (.ref o1), .val (.int i2), .val (.int i3), s4] [])) target := by
  obtain ⟨T4, X4, e4, st4⟩ := getF X0 hx hZ hown (host := "") (Or.inl (hw _ (List.mem_of_getElem? (i := 8) rfl))) Via.refl e0 F_type_w2 (g := (mkF m 21 #[.val (.int i0), .val (.ref o1), .val (.int i2), .val (.int i3), .val (.ref w2)] [(.ref w2)])) rfl rfl (hb hby d1_21)
  refine ⟨T4, X4, e4, fun target kt => ?_⟩
  show Steps p.tables e below (T0.setTop (mkF m 9 #[.val (.int i0), .val (.ref o1), .val (.int i2), .val (.int i3), s4] [])) _
  refine XS.iloadN X0.here hx rfl (hb hby d1_9) rfl ?_
  show Steps p.tables e below (T0.setTop (mkF m 10 #[.val (.int i0), .val (.ref o1), .val (.int i2), .val (.int i3), s4] [(.int i3)])) _
  refine XS.iloadN X0.here hx rfl (hb hby d1_10) rfl ?_
  show Steps p.tables e below (T0.setTop (mkF m 11 #[.val (.int i0), .val (.ref o1), .val (.int i2), .val (.int i3), s4] [(.int i2), (.int i3)])) _
  refine XS.icmpNo X0.here hx rfl (hb hby d1_11) rfl (tlt hc11).2.1 ?_
  show Steps p.tables e below (T0.setTop (mkF m 14 #[.val (.int i0), .val (.ref o1), .val (.int i2), .val (.int i3), s4] [])) _
  refine XS.aloadN X0.here hx rfl (hb hby d1_14) rfl rfl ?_
  show Steps p.tables e below (T0.setTop (mkF m 15 #[.val (.int i0), .val (.ref o1), .val (.int i2), .val (.int i3), s4] [(.ref o1)])) _
  refine XS.iloadN X0.here hx rfl (hb hby d1_15) rfl ?_
  show Steps p.tables e below (T0.setTop (mkF m 16 #[.val (.int i0), .val (.ref o1), .val (.int i2), .val (.int i3), s4] [(.int i3), (.ref o1)])) _
  refine X0.aaload hx (j := i3) (v := (.ref w2)) (by rw [e0]; exact Ar_o1.1) (State.isArrayOf_alike hZ.alike Ar_o1.2.1) rfl Ar_o1.2.2 hin16 hat16 (g := (mkF m 16 #[.val (.int i0), .val (.ref o1), .val (.int i2), .val (.int i3), s4] [(.int i3), (.ref o1)])) rfl rfl (hb hby d1_16) _ ?_
  show Steps p.tables e below (T0.setTop (mkF m 17 #[.val (.int i0), .val (.ref o1), .val (.int i2), .val (.int i3), s4] [(.ref w2)])) _
  refine XS.astore X0.here hx rfl (hb hby d1_17) rfl rfl (l' := #[.val (.int i0), .val (.ref o1), .val (.int i2), .val (.int i3), .val (.ref w2)]) (os1_17 hs4) ?_
  show Steps p.tables e below (T0.setTop (mkF m 19 #[.val (.int i0), .val (.ref o1), .val (.int i2), .val (.int i3), .val (.ref w2)] [])) _
  refine XS.aload X0.here hx rfl (hb hby d1_19) rfl rfl ?_
  show Steps p.tables e below (T0.setTop (mkF m 21 #[.val (.int i0), .val (.ref o1), .val (.int i2), .val (.int i3), .val (.ref w2)] [(.ref w2)])) _
  refine st4 _ ?_
  show Steps p.tables e below (T4.setTop (mkF m 24 #[.val (.int i0), .val (.ref o1), .val (.int i2), .val (.int i3), .val (.ref w2)] [(.int w3)])) _
  refine XS.iloadN X4.here hx rfl (hb hby d1_24) rfl ?_
  show Steps p.tables e below (T4.setTop (mkF m 25 #[.val (.int i0), .val (.ref o1), .val (.int i2), .val (.int i3), .val (.ref w2)] [(.int i0), (.int w3)])) _
  refine XS.icmpYes X4.here hx rfl (pc0 := 25) (pc' := 31) rfl (hb hby d1_25) rfl (feq hc25).2 (by decide) (by decide) ?_
  show Steps p.tables e below (T4.setTop (mkF m 31 #[.val (.int i0), .val (.ref o1), .val (.int i2), .val (.int i3), .val (.ref w2)] [])) _
  refine XS.iinc X4.here hx rfl (hb hby d1_31) rfl (l' := #[.val (.int i0), .val (.ref o1), .val (.int i2), .val (.int (i3 + (1 : Int32))), .val (.ref w2)]) rfl ?_
  show Steps p.tables e below (T4.setTop (mkF m 34 #[.val (.int i0), .val (.ref o1), .val (.int i2), .val (.int (i3 + (1 : Int32))), .val (.ref w2)] [])) _
  refine XS.goto X4.here hx rfl (pc0 := 34) (pc' := 9) rfl (hb hby d1_34) (by decide) (by decide) ?_
  exact kt

set_option maxRecDepth 65536 in
set_option maxHeartbeats 40000000 in
theorem tn1_9_28 {p : Program} {l : Launch} {e : Env} {R : Room} {s : State} {m : MethodId} {args : Array Value} {below : List Frame} {meth : Method} {c : Code} {T0 : State} {locs : List Loc} {cells slots : Nat} {Z : State} {a0 : Array Value} {h0 : Heap} (i0 : Int32) (o1 : Addr) (i2 : Int32) (i3 : Int32) (s4 : Slot) (w2 : Addr) (cl_o1 : Cell) (w3 : Int32)
    (X0 : Stand p l e R s m args below meth c T0 locs cells slots) (hx : p.tables.exec = Jvm.exec) (hZ : Z.Warmed39 s.vm) (hw : ∀ d ∈ tables_1, d.before a0 Z = true) (hby : c.code = prog_115_method_6_code) (hml : c.maxLocals = 5) (hown : s.vm.findClass "com/example/ulmus/ulmus/core/wire/OpCode" = some m.cls) (e0 : T0.heap = h0) (Ar_o1 : Arr Z h0 o1 cl_o1 (.object "com/example/ulmus/ulmus/core/wire/OpCode")) (hin16 : ¬ (i3 < 0 ∨ cl_o1.slots.size ≤ (i3).toNatClampNeg)) (hat16 : cl_o1.slots[(i3).toNatClampNeg]? = some (.ref w2)) (hs4 : One s4) (F_type_w2 : Fld Z h0 w2 "com/example/ulmus/ulmus/core/wire/OpCode" "type" "I" (.int w3)) (hc11 : i3 < i2) (hc25 : w3 = i0) :
    ∃ (T' : State), Stand p l e R s m args below meth c T' locs cells slots ∧ T'.heap = h0 ∧
      ∀ target, Steps p.tables e below (T'.setTop (mkF m 28 #[.val (.int i0), .val (.ref o1), .val (.int i2), .val (.int i3), .val (.ref w2)] [])) target → Steps p.tables e below (T0.setTop (mkF m 9 #[.val (.int i0), .val (.ref o1), .val (.int i2), .val (.int i3), s4] [])) target := by
  obtain ⟨T4, X4, e4, st4⟩ := getF X0 hx hZ hown (host := "") (Or.inl (hw _ (List.mem_of_getElem? (i := 8) rfl))) Via.refl e0 F_type_w2 (g := (mkF m 21 #[.val (.int i0), .val (.ref o1), .val (.int i2), .val (.int i3), .val (.ref w2)] [(.ref w2)])) rfl rfl (hb hby d1_21)
  refine ⟨T4, X4, e4, fun target kt => ?_⟩
  show Steps p.tables e below (T0.setTop (mkF m 9 #[.val (.int i0), .val (.ref o1), .val (.int i2), .val (.int i3), s4] [])) _
  refine XS.iloadN X0.here hx rfl (hb hby d1_9) rfl ?_
  show Steps p.tables e below (T0.setTop (mkF m 10 #[.val (.int i0), .val (.ref o1), .val (.int i2), .val (.int i3), s4] [(.int i3)])) _
  refine XS.iloadN X0.here hx rfl (hb hby d1_10) rfl ?_
  show Steps p.tables e below (T0.setTop (mkF m 11 #[.val (.int i0), .val (.ref o1), .val (.int i2), .val (.int i3), s4] [(.int i2), (.int i3)])) _
  refine XS.icmpNo X0.here hx rfl (hb hby d1_11) rfl (tlt hc11).2.1 ?_
  show Steps p.tables e below (T0.setTop (mkF m 14 #[.val (.int i0), .val (.ref o1), .val (.int i2), .val (.int i3), s4] [])) _
  refine XS.aloadN X0.here hx rfl (hb hby d1_14) rfl rfl ?_
  show Steps p.tables e below (T0.setTop (mkF m 15 #[.val (.int i0), .val (.ref o1), .val (.int i2), .val (.int i3), s4] [(.ref o1)])) _
  refine XS.iloadN X0.here hx rfl (hb hby d1_15) rfl ?_
  show Steps p.tables e below (T0.setTop (mkF m 16 #[.val (.int i0), .val (.ref o1), .val (.int i2), .val (.int i3), s4] [(.int i3), (.ref o1)])) _
  refine X0.aaload hx (j := i3) (v := (.ref w2)) (by rw [e0]; exact Ar_o1.1) (State.isArrayOf_alike hZ.alike Ar_o1.2.1) rfl Ar_o1.2.2 hin16 hat16 (g := (mkF m 16 #[.val (.int i0), .val (.ref o1), .val (.int i2), .val (.int i3), s4] [(.int i3), (.ref o1)])) rfl rfl (hb hby d1_16) _ ?_
  show Steps p.tables e below (T0.setTop (mkF m 17 #[.val (.int i0), .val (.ref o1), .val (.int i2), .val (.int i3), s4] [(.ref w2)])) _
  refine XS.astore X0.here hx rfl (hb hby d1_17) rfl rfl (l' := #[.val (.int i0), .val (.ref o1), .val (.int i2), .val (.int i3), .val (.ref w2)]) (os1_17 hs4) ?_
  show Steps p.tables e below (T0.setTop (mkF m 19 #[.val (.int i0), .val (.ref o1), .val (.int i2), .val (.int i3), .val (.ref w2)] [])) _
  refine XS.aload X0.here hx rfl (hb hby d1_19) rfl rfl ?_
  show Steps p.tables e below (T0.setTop (mkF m 21 #[.val (.int i0), .val (.ref o1), .val (.int i2), .val (.int i3), .val (.ref w2)] [(.ref w2)])) _
  refine st4 _ ?_
  show Steps p.tables e below (T4.setTop (mkF m 24 #[.val (.int i0), .val (.ref o1), .val (.int i2), .val (.int i3), .val (.ref w2)] [(.int w3)])) _
  refine XS.iloadN X4.here hx rfl (hb hby d1_24) rfl ?_
  show Steps p.tables e below (T4.setTop (mkF m 25 #[.val (.int i0), .val (.ref o1), .val (.int i2), .val (.int i3), .val (.ref w2)] [(.int i0), (.int w3)])) _
  refine XS.icmpNo X4.here hx rfl (hb hby d1_25) rfl (teq hc25).2 ?_
  exact kt


set_option maxRecDepth 65536 in
set_option maxHeartbeats 40000000 in
theorem tn1_9_37 {p : Program} {l : Launch} {e : Env} {R : Room} {s : State} {m : MethodId} {args : Array Value} {below : List Frame} {meth : Method} {c : Code} {T0 : State} {locs : List Loc} {cells slots : Nat} {Z : State} {a0 : Array Value} {h0 : Heap} (s0 : Slot) (s1 : Slot) (i2 : Int32) (i3 : Int32) (s4 : Slot)
    (X0 : Stand p l e R s m args below meth c T0 locs cells slots) (hx : p.tables.exec = Jvm.exec) (hZ : Z.Warmed39 s.vm) (hw : ∀ d ∈ tables_1, d.before a0 Z = true) (hby : c.code = prog_115_method_6_code) (hml : c.maxLocals = 5) (hown : s.vm.findClass "com/example/ulmus/ulmus/core/wire/OpCode" = some m.cls) (e0 : T0.heap = h0) (hc11 : ¬ (i3 < i2)) :
    ∃ (T' : State), Stand p l e R s m args below meth c T' locs cells slots ∧ T'.heap = h0 ∧
      ∀ target, Steps p.tables e below (T'.setTop (mkF m 37 #[s0, s1, .val (.int i2), .val (.int i3), s4] [])) target → Steps p.tables e below (T0.setTop (mkF m 9 #[s0, s1, .val (.int i2), .val (.int i3), s4] [])) target := by

  refine ⟨T0, X0, e0, fun target kt => ?_⟩
  show Steps p.tables e below (T0.setTop (mkF m 9 #[s0, s1, .val (.int i2), .val (.int i3), s4] [])) _
  refine XS.iloadN X0.here hx rfl (hb hby d1_9) rfl ?_
  show Steps p.tables e below (T0.setTop (mkF m 10 #[s0, s1, .val (.int i2), .val (.int i3), s4] [(.int i3)])) _
  refine XS.iloadN X0.here hx rfl (hb hby d1_10) rfl ?_
  show Steps p.tables e below (T0.setTop (mkF m 11 #[s0, s1, .val (.int i2), .val (.int i3), s4] [(.int i2), (.int i3)])) _
  refine XS.icmpYes X0.here hx rfl (pc0 := 11) (pc' := 37) rfl (hb hby d1_11) rfl (flt hc11).2.1 (by decide) (by decide) ?_
  exact kt


theorem loop1 {p : Program} {l : Launch} {e : Env} {R : Room} {s : State} {m : MethodId} {args : Array Value} {below : List Frame} {meth : Method} {c : Code} {locs : List Loc} {cells slots : Nat} {Z : State} {a0 : Array Value} {h0 : Heap} (i0 : Int32) (o1 : Addr) (w : Nat → Addr) (cl : Cell) (hx : p.tables.exec = Jvm.exec) (hZ : Z.Warmed39 s.vm) (hw : ∀ d ∈ tables_1, d.before a0 Z = true) (hby : c.code = prog_115_method_6_code) (hml : c.maxLocals = 5) (hown : s.vm.findClass "com/example/ulmus/ulmus/core/wire/OpCode" = some m.cls) (Ar : Arr Z h0 o1 cl (.object "com/example/ulmus/ulmus/core/wire/OpCode")) (S : cl.slots.size = 17) (H : ∀ j, j < 17 → cl.slots[j]? = some (.ref (w j)) ∧ Fld Z h0 (w j) "com/example/ulmus/ulmus/core/wire/OpCode" "type" "I" (.int (own_g j))) :
    ∀ (k i : Nat) (s4 : Slot) (T0 : State), i + k = 17 → One s4 → (∀ j, j < i → own_g j ≠ i0) → Stand p l e R s m args below meth c T0 locs cells slots → T0.heap = h0 →
      ∃ (T' : State), Stand p l e R s m args below meth c T' locs cells slots ∧ T'.heap = h0 ∧
        ((∃ j, j < 17 ∧ own_g j = i0 ∧ ∀ target, Steps p.tables e below (T'.setTop (mkF m 28 #[.val (.int i0), .val (.ref o1), .val (.int (17 : Int32)), .val (.int (Int32.ofNat j)), .val (.ref (w j))] [])) target → Steps p.tables e below (T0.setTop (mkF m 9 #[.val (.int i0), .val (.ref o1), .val (.int (17 : Int32)), .val (.int (Int32.ofNat i)), s4] [])) target) ∨
         ((∀ j, j < 17 → own_g j ≠ i0) ∧ ∃ s' : Slot, ∀ target, Steps p.tables e below (T'.setTop (mkF m 37 #[.val (.int i0), .val (.ref o1), .val (.int (17 : Int32)), .val (.int (17 : Int32)), s'] [])) target → Steps p.tables e below (T0.setTop (mkF m 9 #[.val (.int i0), .val (.ref o1), .val (.int (17 : Int32)), .val (.int (Int32.ofNat i)), s4] [])) target)) := by
  intro k
  induction k with
  | zero =>
    intro i s4 T0 hi h4 hn X0 e0
    obtain rfl : i = 17 := by omega
    obtain ⟨T', X', e', st⟩ := tn1_9_37 (.val (.int i0)) (.val (.ref o1)) (17 : Int32) (17 : Int32) s4 X0 hx hZ hw hby hml hown e0 (by decide)
    exact ⟨T', X', e', Or.inr ⟨hn, s4, st⟩⟩
  | succ k ih =>
    intro i s4 T0 hi h4 hn X0 e0
    have hi' : i < 17 := by omega
    obtain ⟨j1, j2, j3, j4⟩ := own_i i hi'
    have hin : ¬ (Int32.ofNat i < 0 ∨ cl.slots.size ≤ (Int32.ofNat i).toNatClampNeg) := by
      rw [j1, S]
      exact fun q => q.elim j2 (fun q => by omega)
    have hat : cl.slots[(Int32.ofNat i).toNatClampNeg]? = some (.ref (w i)) := by rw [j1]; exact (H i hi').1
    by_cases hg : own_g i = i0
    · obtain ⟨T', X', e', st⟩ := tn1_9_28 i0 o1 (17 : Int32) (Int32.ofNat i) s4 (w i) cl (own_g i) X0 hx hZ hw hby hml hown e0 Ar hin hat h4 (H i hi').2 j3 hg
      exact ⟨T', X', e', Or.inl ⟨i, hi', hg, st⟩⟩
    · obtain ⟨T1, X1, e1, st1⟩ := tn1_9_9 i0 o1 (17 : Int32) (Int32.ofNat i) s4 (w i) cl (own_g i) X0 hx hZ hw hby hml hown e0 Ar hin hat h4 (H i hi').2 j3 hg
      obtain ⟨T', X', e', r⟩ := ih (i + 1) (.val (.ref (w i))) T1 (by omega) (One.val rfl) (fun j hj => by
        rcases Nat.lt_succ_iff_lt_or_eq.mp hj with q | rfl
        · exact hn j q
        · exact hg) X1 e1
      refine ⟨T', X', e', ?_⟩
      rcases r with ⟨j, q1, q2, st⟩ | ⟨q, s', st⟩
      · exact Or.inl ⟨j, q1, q2, fun target h => st1 target (by rw [j4]; exact st target h)⟩
      · exact Or.inr ⟨q, s', fun target h => st1 target (by rw [j4]; exact st target h)⟩

def Q1 (vv : Value) (h0 : Heap) (n0 : Nat) (v : Option Value) (h : Heap) (L : List Loc) : Prop := v = some vv ∧ Fr n0 L ∧ h = h0

set_option maxRecDepth 65536 in
set_option maxHeartbeats 40000000 in
theorem rm1 (l : Launch) (Z : State) (a0 : Array Value) (hw : ∀ d ∈ tables_1, d.before a0 Z = true) (ws : List Jvm.Cond) (p1 : Int32) (w2 : Addr) (cl_w2 : Cell) (w : Nat → Addr) (vv : Value) (h0 : Heap) (n0 : Nat) (Z0 : n0 ≤ h0.size) (OF : OpF Z h0 w2 cl_w2 w) (HS : Spc w p1 vv) :
    MetFree l (⟨"com/example/ulmus/ulmus/core/wire/OpCode", "of", "(I)Lcom/example/ulmus/ulmus/core/wire/OpCode;"⟩ : MethodName) (head1 (Jvm.Cond.code (⟨"com/example/ulmus/ulmus/core/wire/OpCode", "of", "(I)Lcom/example/ulmus/ulmus/core/wire/OpCode;"⟩ : MethodName) prog_115_method_6_code 5 (some (.object "com/example/ulmus/ulmus/core/wire/OpCode")) :: ws) ({ frames := 0, cells := 0, slots := 0, locals := 0 } : Room)) (fun a U => a = #[(.int p1)] ∧ Z.Warmed39 U.vm ∧ U.heap = h0) (fun _ _ _ _ _ => True) (fun _ U o U' => ∃ v L, o = .returned v ∧ Q1 vv h0 n0 v U'.heap L ∧ FrameEnd U o U' L ({ frames := 0, cells := 0, slots := 0, locals := 0 } : Room).cells ({ frames := 0, cells := 0, slots := 0, locals := 0 } : Room).slots) := by
  refine MetFree.of_bodySF (plainFor_of_name pn_1) hisR ?_
  intro p e s m args below meth c s₁ Bd hml0 hP hK
  obtain ⟨rfl, hZ, hh⟩ := hP
  have hx := Bd.exec
  have hby := Bd.bytes
  have hml : c.maxLocals = 5 := hml0
  have hown : s.vm.findClass "com/example/ulmus/ulmus/core/wire/OpCode" = some m.cls := findClass_of_methodNamed Bd.named
  have hnm := (name_of_methodNamed Bd.named Bd.method).1
  have X0 : Stand p l e ({ frames := 0, cells := 0, slots := 0, locals := 0 } : Room) s m #[(.int p1)] below meth c s₁ [] 0 0 := Stand.of_body Bd
  have e0 : s₁.heap = h0 := by rw [← hh, Bd.state]; rfl
  have N0 := Fr.nil n0
  have pre0 : ∀ t, Steps p.tables e below (s₁.setTop (mkF m 0 #[.val (.int p1), .unset, .unset, .unset, .unset] [])) t → Steps p.tables e below (s₁.setTop (entryFrame m #[(.int p1)] 5)) t := fun t k => castTop (ef_1 m p1) k
  obtain ⟨S_ALL, Ar_w2, S17, HH, -⟩ := OF
  have S_w2 : cl_w2.slots.size = (17 : Int32).toNatClampNeg := S17
  have N_w2 : ¬ (17 : Int32) < 0 := by decide
  obtain ⟨T3, X3, e3, st3⟩ := getS2 X0 hx hZ hown (host := "") (Or.inl (hw _ (List.mem_of_getElem? (i := 5) rfl))) Via.refl e0 S_ALL (g := (mkF m 0 #[.val (.int p1), .unset, .unset, .unset, .unset] [])) rfl (hb hby d1_0)
  obtain ⟨T4, X4, e4, r⟩ := loop1 p1 w2 w cl_w2 hx hZ hw hby hml hown Ar_w2 S17 HH 17 0 .unset T3 (by omega) One.u (fun j hj => absurd hj (Nat.not_lt_zero j)) X3 e3
  rcases r with ⟨j, hj, hg, st⟩ | ⟨hall, s', st⟩
  · obtain rfl : vv = .ref (w j) := by
      rcases HS with ⟨k, k1, k2, k3⟩ | ⟨-, k2⟩
      · rw [k3, own_inj k k1 j hj (k2.trans hg.symm)]
      · exact absurd hg (k2 j hj)
    obtain ⟨fs, hr, hrun, hended, hW, hsame⟩ := X4.leave (v := some (.ref (w j))) (fun h => by rw [Bd.returns] at h; cases h)
    refine ⟨_, _, pre0 _ ?_, hrun, hended, _, _, rfl, ?_, ⟨_, rfl⟩, hW, hsame.mono (by decide) (by decide)⟩
    · show Steps p.tables e below (s₁.setTop (mkF m 0 #[.val (.int p1), .unset, .unset, .unset, .unset] [])) _
      refine st3 _ ?_
      show Steps p.tables e below (T3.setTop (mkF m 3 #[.val (.int p1), .unset, .unset, .unset, .unset] [(.ref w2)])) _
      refine XS.astoreN X3.here hx rfl (hb hby d1_3) rfl rfl (l' := #[.val (.int p1), .val (.ref w2), .unset, .unset, .unset]) rfl ?_
      show Steps p.tables e below (T3.setTop (mkF m 4 #[.val (.int p1), .val (.ref w2), .unset, .unset, .unset] [])) _
      refine XS.aloadN X3.here hx rfl (hb hby d1_4) rfl rfl ?_
      show Steps p.tables e below (T3.setTop (mkF m 5 #[.val (.int p1), .val (.ref w2), .unset, .unset, .unset] [(.ref w2)])) _
      refine X3.arraylength hx (by rw [e3]; exact Ar_w2.1) (State.isArrayOf_alike hZ.alike Ar_w2.2.1) (g := (mkF m 5 #[.val (.int p1), .val (.ref w2), .unset, .unset, .unset] [(.ref w2)])) rfl rfl (hb hby d1_5) _ ?_
      rw [len_of S_w2 N_w2]
      show Steps p.tables e below (T3.setTop (mkF m 6 #[.val (.int p1), .val (.ref w2), .unset, .unset, .unset] [(.int (17 : Int32))])) _
      refine XS.istoreN X3.here hx rfl (hb hby d1_6) rfl (l' := #[.val (.int p1), .val (.ref w2), .val (.int (17 : Int32)), .unset, .unset]) rfl ?_
      show Steps p.tables e below (T3.setTop (mkF m 7 #[.val (.int p1), .val (.ref w2), .val (.int (17 : Int32)), .unset, .unset] [])) _
      refine XS.iconst X3.here hx rfl (hb hby d1_7) ?_
      show Steps p.tables e below (T3.setTop (mkF m 8 #[.val (.int p1), .val (.ref w2), .val (.int (17 : Int32)), .unset, .unset] [(.int (0 : Int32))])) _
      refine XS.istoreN X3.here hx rfl (hb hby d1_8) rfl (l' := #[.val (.int p1), .val (.ref w2), .val (.int (17 : Int32)), .val (.int (0 : Int32)), .unset]) rfl ?_
      show Steps p.tables e below (T3.setTop (mkF m 9 #[.val (.int p1), .val (.ref w2), .val (.int (17 : Int32)), .val (.int (0 : Int32)), .unset] [])) _
      refine st _ ?_
      show Steps p.tables e below (T4.setTop (mkF m 28 #[.val (.int p1), .val (.ref w2), .val (.int (17 : Int32)), .val (.int (Int32.ofNat j)), .val (.ref (w j))] [])) _
      refine XS.aload X4.here hx rfl (hb hby d1_28) rfl rfl ?_
      show Steps p.tables e below (T4.setTop (mkF m 30 #[.val (.int p1), .val (.ref w2), .val (.int (17 : Int32)), .val (.int (Int32.ofNat j)), .val (.ref (w j))] [(.ref (w j))])) _
      jvm_step X4.here [X4.here.top, hx, (hb hby d1_30), X4.method', Bd.returns, Value.isRef, FieldType.isReference]
      first | (intro acts; rw [hr _ acts rfl rfl rfl]) | rw [hr _ _ rfl rfl rfl]
      exact Steps.refl _
    · show Q1 _ h0 n0 _ T4.heap _
      rw [e4]
      exact ⟨rfl, N0, rfl⟩
  · obtain rfl : vv = .null := by
      rcases HS with ⟨k, k1, k2, k3⟩ | ⟨k1, -⟩
      · exact absurd k2 (hall k k1)
      · exact k1
    obtain ⟨fs, hr, hrun, hended, hW, hsame⟩ := X4.leave (v := some .null) (fun h => by rw [Bd.returns] at h; cases h)
    refine ⟨_, _, pre0 _ ?_, hrun, hended, _, _, rfl, ?_, ⟨_, rfl⟩, hW, hsame.mono (by decide) (by decide)⟩
    · show Steps p.tables e below (s₁.setTop (mkF m 0 #[.val (.int p1), .unset, .unset, .unset, .unset] [])) _
      refine st3 _ ?_
      show Steps p.tables e below (T3.setTop (mkF m 3 #[.val (.int p1), .unset, .unset, .unset, .unset] [(.ref w2)])) _
      refine XS.astoreN X3.here hx rfl (hb hby d1_3) rfl rfl (l' := #[.val (.int p1), .val (.ref w2), .unset, .unset, .unset]) rfl ?_
      show Steps p.tables e below (T3.setTop (mkF m 4 #[.val (.int p1), .val (.ref w2), .unset, .unset, .unset] [])) _
      refine XS.aloadN X3.here hx rfl (hb hby d1_4) rfl rfl ?_
      show Steps p.tables e below (T3.setTop (mkF m 5 #[.val (.int p1), .val (.ref w2), .unset, .unset, .unset] [(.ref w2)])) _
      refine X3.arraylength hx (by rw [e3]; exact Ar_w2.1) (State.isArrayOf_alike hZ.alike Ar_w2.2.1) (g := (mkF m 5 #[.val (.int p1), .val (.ref w2), .unset, .unset, .unset] [(.ref w2)])) rfl rfl (hb hby d1_5) _ ?_
      rw [len_of S_w2 N_w2]
      show Steps p.tables e below (T3.setTop (mkF m 6 #[.val (.int p1), .val (.ref w2), .unset, .unset, .unset] [(.int (17 : Int32))])) _
      refine XS.istoreN X3.here hx rfl (hb hby d1_6) rfl (l' := #[.val (.int p1), .val (.ref w2), .val (.int (17 : Int32)), .unset, .unset]) rfl ?_
      show Steps p.tables e below (T3.setTop (mkF m 7 #[.val (.int p1), .val (.ref w2), .val (.int (17 : Int32)), .unset, .unset] [])) _
      refine XS.iconst X3.here hx rfl (hb hby d1_7) ?_
      show Steps p.tables e below (T3.setTop (mkF m 8 #[.val (.int p1), .val (.ref w2), .val (.int (17 : Int32)), .unset, .unset] [(.int (0 : Int32))])) _
      refine XS.istoreN X3.here hx rfl (hb hby d1_8) rfl (l' := #[.val (.int p1), .val (.ref w2), .val (.int (17 : Int32)), .val (.int (0 : Int32)), .unset]) rfl ?_
      show Steps p.tables e below (T3.setTop (mkF m 9 #[.val (.int p1), .val (.ref w2), .val (.int (17 : Int32)), .val (.int (0 : Int32)), .unset] [])) _
      refine st _ ?_
      show Steps p.tables e below (T4.setTop (mkF m 37 #[.val (.int p1), .val (.ref w2), .val (.int (17 : Int32)), .val (.int (17 : Int32)), s'] [])) _
      refine XS.aconstNull X4.here hx rfl (hb hby d1_37) ?_
      show Steps p.tables e below (T4.setTop (mkF m 38 #[.val (.int p1), .val (.ref w2), .val (.int (17 : Int32)), .val (.int (17 : Int32)), s'] [.null])) _
      jvm_step X4.here [X4.here.top, hx, (hb hby d1_38), X4.method', Bd.returns, Value.isRef, FieldType.isReference]
      first | (intro acts; rw [hr _ acts rfl rfl rfl]) | rw [hr _ _ rfl rfl rfl]
      exact Steps.refl _
    · show Q1 _ h0 n0 _ T4.heap _
      rw [e4]
      exact ⟨rfl, N0, rfl⟩

theorem d2_0 : decode method_3_code 0 = .ok (.iload_n 0, 1) := by decide +kernel
theorem d2_1 : decode method_3_code 1 = .ok (.iconst 1, 1) := by decide +kernel
theorem d2_2 : decode method_3_code 2 = .ok (.if_icmp .ne 7, 3) := by decide +kernel
theorem d2_5 : decode method_3_code 5 = .ok (.getstatic 18, 3) := by decide +kernel
theorem d2_8 : decode method_3_code 8 = .ok (.areturn, 1) := by decide +kernel
theorem pn_2 : plainName "com/example/ulmus/ulmus/core/wire/OpCodeOfPinLaw" = true := by first | (simp [plainName, overriddenIn]; done) | decide +kernel
theorem ef_2 (m : MethodId) (x0 : Int32) : entryFrame m #[(.int x0)] 1 = mkF m 0 #[.val (.int x0)] [] := by first | (simp [entryFrame, mkF, argsToLocals, Value.category]; done) | rfl
theorem d2_9 : decode method_3_code 9 = .ok (.iload_n 0, 1) := by decide +kernel
theorem d2_10 : decode method_3_code 10 = .ok (.iconst 2, 1) := by decide +kernel
theorem d2_11 : decode method_3_code 11 = .ok (.if_icmp .ne 7, 3) := by decide +kernel
theorem d2_14 : decode method_3_code 14 = .ok (.getstatic 22, 3) := by decide +kernel
theorem d2_17 : decode method_3_code 17 = .ok (.areturn, 1) := by decide +kernel
theorem d2_18 : decode method_3_code 18 = .ok (.iload_n 0, 1) := by decide +kernel
theorem d2_19 : decode method_3_code 19 = .ok (.iconst 3, 1) := by decide +kernel
theorem d2_20 : decode method_3_code 20 = .ok (.if_icmp .ne 7, 3) := by decide +kernel
theorem d2_23 : decode method_3_code 23 = .ok (.getstatic 25, 3) := by decide +kernel
theorem d2_26 : decode method_3_code 26 = .ok (.areturn, 1) := by decide +kernel
theorem d2_27 : decode method_3_code 27 = .ok (.iload_n 0, 1) := by decide +kernel
theorem d2_28 : decode method_3_code 28 = .ok (.iconst 4, 1) := by decide +kernel
theorem d2_29 : decode method_3_code 29 = .ok (.if_icmp .ne 7, 3) := by decide +kernel
theorem d2_32 : decode method_3_code 32 = .ok (.getstatic 28, 3) := by decide +kernel
theorem d2_35 : decode method_3_code 35 = .ok (.areturn, 1) := by decide +kernel
theorem d2_36 : decode method_3_code 36 = .ok (.iload_n 0, 1) := by decide +kernel
theorem d2_37 : decode method_3_code 37 = .ok (.iconst 5, 1) := by decide +kernel
theorem d2_38 : decode method_3_code 38 = .ok (.if_icmp .ne 7, 3) := by decide +kernel
theorem d2_41 : decode method_3_code 41 = .ok (.getstatic 31, 3) := by decide +kernel
theorem d2_44 : decode method_3_code 44 = .ok (.areturn, 1) := by decide +kernel
theorem d2_45 : decode method_3_code 45 = .ok (.iload_n 0, 1) := by decide +kernel
theorem d2_46 : decode method_3_code 46 = .ok (.bipush 6, 2) := by decide +kernel
theorem d2_48 : decode method_3_code 48 = .ok (.if_icmp .ne 7, 3) := by decide +kernel
theorem d2_51 : decode method_3_code 51 = .ok (.getstatic 34, 3) := by decide +kernel
theorem d2_54 : decode method_3_code 54 = .ok (.areturn, 1) := by decide +kernel
theorem d2_55 : decode method_3_code 55 = .ok (.iload_n 0, 1) := by decide +kernel
theorem d2_56 : decode method_3_code 56 = .ok (.bipush 7, 2) := by decide +kernel
theorem d2_58 : decode method_3_code 58 = .ok (.if_icmp .ne 7, 3) := by decide +kernel
theorem d2_61 : decode method_3_code 61 = .ok (.getstatic 37, 3) := by decide +kernel
theorem d2_64 : decode method_3_code 64 = .ok (.areturn, 1) := by decide +kernel
theorem d2_65 : decode method_3_code 65 = .ok (.iload_n 0, 1) := by decide +kernel
theorem d2_66 : decode method_3_code 66 = .ok (.bipush 8, 2) := by decide +kernel
theorem d2_68 : decode method_3_code 68 = .ok (.if_icmp .ne 7, 3) := by decide +kernel
theorem d2_71 : decode method_3_code 71 = .ok (.getstatic 40, 3) := by decide +kernel
theorem d2_74 : decode method_3_code 74 = .ok (.areturn, 1) := by decide +kernel
theorem d2_75 : decode method_3_code 75 = .ok (.iload_n 0, 1) := by decide +kernel
theorem d2_76 : decode method_3_code 76 = .ok (.bipush 9, 2) := by decide +kernel
theorem d2_78 : decode method_3_code 78 = .ok (.if_icmp .ne 7, 3) := by decide +kernel
theorem d2_81 : decode method_3_code 81 = .ok (.getstatic 43, 3) := by decide +kernel
theorem d2_84 : decode method_3_code 84 = .ok (.areturn, 1) := by decide +kernel
theorem d2_85 : decode method_3_code 85 = .ok (.iload_n 0, 1) := by decide +kernel
theorem d2_86 : decode method_3_code 86 = .ok (.bipush 11, 2) := by decide +kernel
theorem d2_88 : decode method_3_code 88 = .ok (.if_icmp .ne 7, 3) := by decide +kernel
theorem d2_91 : decode method_3_code 91 = .ok (.getstatic 46, 3) := by decide +kernel
theorem d2_94 : decode method_3_code 94 = .ok (.areturn, 1) := by decide +kernel
theorem d2_95 : decode method_3_code 95 = .ok (.iload_n 0, 1) := by decide +kernel
theorem d2_96 : decode method_3_code 96 = .ok (.bipush 12, 2) := by decide +kernel
theorem d2_98 : decode method_3_code 98 = .ok (.if_icmp .ne 7, 3) := by decide +kernel
theorem d2_101 : decode method_3_code 101 = .ok (.getstatic 49, 3) := by decide +kernel
theorem d2_104 : decode method_3_code 104 = .ok (.areturn, 1) := by decide +kernel
theorem d2_105 : decode method_3_code 105 = .ok (.iload_n 0, 1) := by decide +kernel
theorem d2_106 : decode method_3_code 106 = .ok (.bipush 13, 2) := by decide +kernel
theorem d2_108 : decode method_3_code 108 = .ok (.if_icmp .ne 7, 3) := by decide +kernel
theorem d2_111 : decode method_3_code 111 = .ok (.getstatic 52, 3) := by decide +kernel
theorem d2_114 : decode method_3_code 114 = .ok (.areturn, 1) := by decide +kernel
theorem d2_115 : decode method_3_code 115 = .ok (.iload_n 0, 1) := by decide +kernel
theorem d2_116 : decode method_3_code 116 = .ok (.bipush 14, 2) := by decide +kernel
theorem d2_118 : decode method_3_code 118 = .ok (.if_icmp .ne 7, 3) := by decide +kernel
theorem d2_121 : decode method_3_code 121 = .ok (.getstatic 55, 3) := by decide +kernel
theorem d2_124 : decode method_3_code 124 = .ok (.areturn, 1) := by decide +kernel
theorem d2_125 : decode method_3_code 125 = .ok (.iload_n 0, 1) := by decide +kernel
theorem d2_126 : decode method_3_code 126 = .ok (.bipush 15, 2) := by decide +kernel
theorem d2_128 : decode method_3_code 128 = .ok (.if_icmp .ne 7, 3) := by decide +kernel
theorem d2_131 : decode method_3_code 131 = .ok (.getstatic 58, 3) := by decide +kernel
theorem d2_134 : decode method_3_code 134 = .ok (.areturn, 1) := by decide +kernel
theorem d2_135 : decode method_3_code 135 = .ok (.iload_n 0, 1) := by decide +kernel
theorem d2_136 : decode method_3_code 136 = .ok (.bipush 100, 2) := by decide +kernel
theorem d2_138 : decode method_3_code 138 = .ok (.if_icmp .ne 7, 3) := by decide +kernel
theorem d2_141 : decode method_3_code 141 = .ok (.getstatic 61, 3) := by decide +kernel
theorem d2_144 : decode method_3_code 144 = .ok (.areturn, 1) := by decide +kernel
theorem d2_145 : decode method_3_code 145 = .ok (.iload_n 0, 1) := by decide +kernel
theorem d2_146 : decode method_3_code 146 = .ok (.bipush 101, 2) := by decide +kernel
theorem d2_148 : decode method_3_code 148 = .ok (.if_icmp .ne 7, 3) := by decide +kernel
theorem d2_151 : decode method_3_code 151 = .ok (.getstatic 64, 3) := by decide +kernel
theorem d2_154 : decode method_3_code 154 = .ok (.areturn, 1) := by decide +kernel
theorem d2_155 : decode method_3_code 155 = .ok (.iload_n 0, 1) := by decide +kernel
theorem d2_156 : decode method_3_code 156 = .ok (.bipush (-11), 2) := by decide +kernel
theorem d2_158 : decode method_3_code 158 = .ok (.if_icmp .ne 7, 3) := by decide +kernel
theorem d2_161 : decode method_3_code 161 = .ok (.getstatic 67, 3) := by decide +kernel
theorem d2_164 : decode method_3_code 164 = .ok (.areturn, 1) := by decide +kernel
theorem d2_165 : decode method_3_code 165 = .ok (.aconst_null, 1) := by decide +kernel
theorem d2_166 : decode method_3_code 166 = .ok (.areturn, 1) := by decide +kernel

set_option maxRecDepth 65536 in
set_option maxHeartbeats 40000000 in
theorem rm2_0 (l : Launch) (Z : State) (a0 : Array Value) (hw : ∀ d ∈ tables_1, d.before a0 Z = true) (ws : List Jvm.Cond) (p1 : Int32) (w2 : Addr) (h0 : Heap) (n0 : Nat) (Z0 : n0 ≤ h0.size) (S_CREATE : Sta Z h0 "com/example/ulmus/ulmus/core/wire/OpCode" "CREATE" "Lcom/example/ulmus/ulmus/core/wire/OpCode;" (.ref w2)) (hc2 : p1 = (1 : Int32)) :
    MetFree l (⟨"com/example/ulmus/ulmus/core/wire/OpCodeOfPinLaw", "expected", "(I)Lcom/example/ulmus/ulmus/core/wire/OpCode;"⟩ : MethodName) (head1 (Jvm.Cond.code (⟨"com/example/ulmus/ulmus/core/wire/OpCodeOfPinLaw", "expected", "(I)Lcom/example/ulmus/ulmus/core/wire/OpCode;"⟩ : MethodName) method_3_code 1 (some (.object "com/example/ulmus/ulmus/core/wire/OpCode")) :: ws) ({ frames := 0, cells := 0, slots := 0, locals := 0 } : Room)) (fun a U => a = #[(.int p1)] ∧ Z.Warmed39 U.vm ∧ U.heap = h0) (fun _ _ _ _ _ => True) (fun _ U o U' => ∃ v L, o = .returned v ∧ Q1 (.ref w2) h0 n0 v U'.heap L ∧ FrameEnd U o U' L ({ frames := 0, cells := 0, slots := 0, locals := 0 } : Room).cells ({ frames := 0, cells := 0, slots := 0, locals := 0 } : Room).slots) := by
  refine MetFree.of_bodySF (plainFor_of_name pn_2) hisR ?_
  intro p e s m args below meth c s₁ Bd hml0 hP hK
  obtain ⟨rfl, hZ, hh⟩ := hP
  have hx := Bd.exec
  have hby := Bd.bytes
  have hml : c.maxLocals = 1 := hml0
  have hown : s.vm.findClass "com/example/ulmus/ulmus/core/wire/OpCodeOfPinLaw" = some m.cls := findClass_of_methodNamed Bd.named
  have hnm := (name_of_methodNamed Bd.named Bd.method).1
  have X0 : Stand p l e ({ frames := 0, cells := 0, slots := 0, locals := 0 } : Room) s m #[(.int p1)] below meth c s₁ [] 0 0 := Stand.of_body Bd
  have e0 : s₁.heap = h0 := by rw [← hh, Bd.state]; rfl
  have N0 := Fr.nil n0
  have pre0 : ∀ t, Steps p.tables e below (s₁.setTop (mkF m 0 #[.val (.int p1)] [])) t → Steps p.tables e below (s₁.setTop (entryFrame m #[(.int p1)] 1)) t := fun t k => castTop (ef_2 m p1) k
  obtain ⟨T3, X3, e3, st3⟩ := getS2 X0 hx hZ hown (host := "") (Or.inl (hw _ (List.mem_of_getElem? (i := 32) rfl))) Via.refl e0 S_CREATE (g := (mkF m 5 #[.val (.int p1)] [])) rfl (hb hby d2_5)
  obtain ⟨fs, hr, hrun, hended, hW, hsame⟩ := X3.leave (v := some (.ref w2)) (fun h => by rw [Bd.returns] at h; cases h)
  refine ⟨_, _, pre0 _ ?_, hrun, hended, _, _, rfl, ?_, ⟨_, rfl⟩, hW, hsame.mono (by decide) (by decide)⟩
  · show Steps p.tables e below (s₁.setTop (mkF m 0 #[.val (.int p1)] [])) _
    refine XS.iloadN X0.here hx rfl (hb hby d2_0) rfl ?_
    show Steps p.tables e below (s₁.setTop (mkF m 1 #[.val (.int p1)] [(.int p1)])) _
    refine XS.iconst X0.here hx rfl (hb hby d2_1) ?_
    show Steps p.tables e below (s₁.setTop (mkF m 2 #[.val (.int p1)] [(.int (1 : Int32)), (.int p1)])) _
    refine XS.icmpNo X0.here hx rfl (hb hby d2_2) rfl (teq hc2).2 ?_
    show Steps p.tables e below (s₁.setTop (mkF m 5 #[.val (.int p1)] [])) _
    refine st3 _ ?_
    show Steps p.tables e below (T3.setTop (mkF m 8 #[.val (.int p1)] [(.ref w2)])) _
    jvm_step X3.here [X3.here.top, hx, (hb hby d2_8), X3.method', Bd.returns, Value.isRef, FieldType.isReference]
    first | (intro acts; rw [hr _ acts rfl rfl rfl]) | rw [hr _ _ rfl rfl rfl]
    exact Steps.refl _
  · show Q1 (.ref w2) h0 n0 _ T3.heap _
    rw [e3]
    exact ⟨rfl, N0, rfl⟩


set_option maxRecDepth 65536 in
set_option maxHeartbeats 40000000 in
theorem rm2_1 (l : Launch) (Z : State) (a0 : Array Value) (hw : ∀ d ∈ tables_1, d.before a0 Z = true) (ws : List Jvm.Cond) (p1 : Int32) (w2 : Addr) (h0 : Heap) (n0 : Nat) (Z0 : n0 ≤ h0.size) (S_DELETE : Sta Z h0 "com/example/ulmus/ulmus/core/wire/OpCode" "DELETE" "Lcom/example/ulmus/ulmus/core/wire/OpCode;" (.ref w2)) (hc2 : ¬ (p1 = (1 : Int32))) (hc11 : p1 = (2 : Int32)) :
    MetFree l (⟨"com/example/ulmus/ulmus/core/wire/OpCodeOfPinLaw", "expected", "(I)Lcom/example/ulmus/ulmus/core/wire/OpCode;"⟩ : MethodName) (head1 (Jvm.Cond.code (⟨"com/example/ulmus/ulmus/core/wire/OpCodeOfPinLaw", "expected", "(I)Lcom/example/ulmus/ulmus/core/wire/OpCode;"⟩ : MethodName) method_3_code 1 (some (.object "com/example/ulmus/ulmus/core/wire/OpCode")) :: ws) ({ frames := 0, cells := 0, slots := 0, locals := 0 } : Room)) (fun a U => a = #[(.int p1)] ∧ Z.Warmed39 U.vm ∧ U.heap = h0) (fun _ _ _ _ _ => True) (fun _ U o U' => ∃ v L, o = .returned v ∧ Q1 (.ref w2) h0 n0 v U'.heap L ∧ FrameEnd U o U' L ({ frames := 0, cells := 0, slots := 0, locals := 0 } : Room).cells ({ frames := 0, cells := 0, slots := 0, locals := 0 } : Room).slots) := by
  refine MetFree.of_bodySF (plainFor_of_name pn_2) hisR ?_
  intro p e s m args below meth c s₁ Bd hml0 hP hK
  obtain ⟨rfl, hZ, hh⟩ := hP
  have hx := Bd.exec
  have hby := Bd.bytes
  have hml : c.maxLocals = 1 := hml0
  have hown : s.vm.findClass "com/example/ulmus/ulmus/core/wire/OpCodeOfPinLaw" = some m.cls := findClass_of_methodNamed Bd.named
  have hnm := (name_of_methodNamed Bd.named Bd.method).1
  have X0 : Stand p l e ({ frames := 0, cells := 0, slots := 0, locals := 0 } : Room) s m #[(.int p1)] below meth c s₁ [] 0 0 := Stand.of_body Bd
  have e0 : s₁.heap = h0 := by rw [← hh, Bd.state]; rfl
  have N0 := Fr.nil n0
  have pre0 : ∀ t, Steps p.tables e below (s₁.setTop (mkF m 0 #[.val (.int p1)] [])) t → Steps p.tables e below (s₁.setTop (entryFrame m #[(.int p1)] 1)) t := fun t k => castTop (ef_2 m p1) k
  obtain ⟨T3, X3, e3, st3⟩ := getS2 X0 hx hZ hown (host := "") (Or.inl (hw _ (List.mem_of_getElem? (i := 18) rfl))) Via.refl e0 S_DELETE (g := (mkF m 14 #[.val (.int p1)] [])) rfl (hb hby d2_14)
  obtain ⟨fs, hr, hrun, hended, hW, hsame⟩ := X3.leave (v := some (.ref w2)) (fun h => by rw [Bd.returns] at h; cases h)
  refine ⟨_, _, pre0 _ ?_, hrun, hended, _, _, rfl, ?_, ⟨_, rfl⟩, hW, hsame.mono (by decide) (by decide)⟩
  · show Steps p.tables e below (s₁.setTop (mkF m 0 #[.val (.int p1)] [])) _
    refine XS.iloadN X0.here hx rfl (hb hby d2_0) rfl ?_
    show Steps p.tables e below (s₁.setTop (mkF m 1 #[.val (.int p1)] [(.int p1)])) _
    refine XS.iconst X0.here hx rfl (hb hby d2_1) ?_
    show Steps p.tables e below (s₁.setTop (mkF m 2 #[.val (.int p1)] [(.int (1 : Int32)), (.int p1)])) _
    refine XS.icmpYes X0.here hx rfl (pc0 := 2) (pc' := 9) rfl (hb hby d2_2) rfl (feq hc2).2 (by decide) (by decide) ?_
    show Steps p.tables e below (s₁.setTop (mkF m 9 #[.val (.int p1)] [])) _
    refine XS.iloadN X0.here hx rfl (hb hby d2_9) rfl ?_
    show Steps p.tables e below (s₁.setTop (mkF m 10 #[.val (.int p1)] [(.int p1)])) _
    refine XS.iconst X0.here hx rfl (hb hby d2_10) ?_
    show Steps p.tables e below (s₁.setTop (mkF m 11 #[.val (.int p1)] [(.int (2 : Int32)), (.int p1)])) _
    refine XS.icmpNo X0.here hx rfl (hb hby d2_11) rfl (teq hc11).2 ?_
    show Steps p.tables e below (s₁.setTop (mkF m 14 #[.val (.int p1)] [])) _
    refine st3 _ ?_
    show Steps p.tables e below (T3.setTop (mkF m 17 #[.val (.int p1)] [(.ref w2)])) _
    jvm_step X3.here [X3.here.top, hx, (hb hby d2_17), X3.method', Bd.returns, Value.isRef, FieldType.isReference]
    first | (intro acts; rw [hr _ acts rfl rfl rfl]) | rw [hr _ _ rfl rfl rfl]
    exact Steps.refl _
  · show Q1 (.ref w2) h0 n0 _ T3.heap _
    rw [e3]
    exact ⟨rfl, N0, rfl⟩


set_option maxRecDepth 65536 in
set_option maxHeartbeats 40000000 in
theorem rm2_2 (l : Launch) (Z : State) (a0 : Array Value) (hw : ∀ d ∈ tables_1, d.before a0 Z = true) (ws : List Jvm.Cond) (p1 : Int32) (w2 : Addr) (h0 : Heap) (n0 : Nat) (Z0 : n0 ≤ h0.size) (S_EXISTS : Sta Z h0 "com/example/ulmus/ulmus/core/wire/OpCode" "EXISTS" "Lcom/example/ulmus/ulmus/core/wire/OpCode;" (.ref w2)) (hc2 : ¬ (p1 = (1 : Int32))) (hc11 : ¬ (p1 = (2 : Int32))) (hc20 : p1 = (3 : Int32)) :
    MetFree l (⟨"com/example/ulmus/ulmus/core/wire/OpCodeOfPinLaw", "expected", "(I)Lcom/example/ulmus/ulmus/core/wire/OpCode;"⟩ : MethodName) (head1 (Jvm.Cond.code (⟨"com/example/ulmus/ulmus/core/wire/OpCodeOfPinLaw", "expected", "(I)Lcom/example/ulmus/ulmus/core/wire/OpCode;"⟩ : MethodName) method_3_code 1 (some (.object "com/example/ulmus/ulmus/core/wire/OpCode")) :: ws) ({ frames := 0, cells := 0, slots := 0, locals := 0 } : Room)) (fun a U => a = #[(.int p1)] ∧ Z.Warmed39 U.vm ∧ U.heap = h0) (fun _ _ _ _ _ => True) (fun _ U o U' => ∃ v L, o = .returned v ∧ Q1 (.ref w2) h0 n0 v U'.heap L ∧ FrameEnd U o U' L ({ frames := 0, cells := 0, slots := 0, locals := 0 } : Room).cells ({ frames := 0, cells := 0, slots := 0, locals := 0 } : Room).slots) := by
  refine MetFree.of_bodySF (plainFor_of_name pn_2) hisR ?_
  intro p e s m args below meth c s₁ Bd hml0 hP hK
  obtain ⟨rfl, hZ, hh⟩ := hP
  have hx := Bd.exec
  have hby := Bd.bytes
  have hml : c.maxLocals = 1 := hml0
  have hown : s.vm.findClass "com/example/ulmus/ulmus/core/wire/OpCodeOfPinLaw" = some m.cls := findClass_of_methodNamed Bd.named
  have hnm := (name_of_methodNamed Bd.named Bd.method).1
  have X0 : Stand p l e ({ frames := 0, cells := 0, slots := 0, locals := 0 } : Room) s m #[(.int p1)] below meth c s₁ [] 0 0 := Stand.of_body Bd
  have e0 : s₁.heap = h0 := by rw [← hh, Bd.state]; rfl
  have N0 := Fr.nil n0
  have pre0 : ∀ t, Steps p.tables e below (s₁.setTop (mkF m 0 #[.val (.int p1)] [])) t → Steps p.tables e below (s₁.setTop (entryFrame m #[(.int p1)] 1)) t := fun t k => castTop (ef_2 m p1) k
  obtain ⟨T3, X3, e3, st3⟩ := getS2 X0 hx hZ hown (host := "") (Or.inl (hw _ (List.mem_of_getElem? (i := 36) rfl))) Via.refl e0 S_EXISTS (g := (mkF m 23 #[.val (.int p1)] [])) rfl (hb hby d2_23)
  obtain ⟨fs, hr, hrun, hended, hW, hsame⟩ := X3.leave (v := some (.ref w2)) (fun h => by rw [Bd.returns] at h; cases h)
  refine ⟨_, _, pre0 _ ?_, hrun, hended, _, _, rfl, ?_, ⟨_, rfl⟩, hW, hsame.mono (by decide) (by decide)⟩
  · show Steps p.tables e below (s₁.setTop (mkF m 0 #[.val (.int p1)] [])) _
    refine XS.iloadN X0.here hx rfl (hb hby d2_0) rfl ?_
    show Steps p.tables e below (s₁.setTop (mkF m 1 #[.val (.int p1)] [(.int p1)])) _
    refine XS.iconst X0.here hx rfl (hb hby d2_1) ?_
    show Steps p.tables e below (s₁.setTop (mkF m 2 #[.val (.int p1)] [(.int (1 : Int32)), (.int p1)])) _
    refine XS.icmpYes X0.here hx rfl (pc0 := 2) (pc' := 9) rfl (hb hby d2_2) rfl (feq hc2).2 (by decide) (by decide) ?_
    show Steps p.tables e below (s₁.setTop (mkF m 9 #[.val (.int p1)] [])) _
    refine XS.iloadN X0.here hx rfl (hb hby d2_9) rfl ?_
    show Steps p.tables e below (s₁.setTop (mkF m 10 #[.val (.int p1)] [(.int p1)])) _
    refine XS.iconst X0.here hx rfl (hb hby d2_10) ?_
    show Steps p.tables e below (s₁.setTop (mkF m 11 #[.val (.int p1)] [(.int (2 : Int32)), (.int p1)])) _
    refine XS.icmpYes X0.here hx rfl (pc0 := 11) (pc' := 18) rfl (hb hby d2_11) rfl (feq hc11).2 (by decide) (by decide) ?_
    show Steps p.tables e below (s₁.setTop (mkF m 18 #[.val (.int p1)] [])) _
    refine XS.iloadN X0.here hx rfl (hb hby d2_18) rfl ?_
    show Steps p.tables e below (s₁.setTop (mkF m 19 #[.val (.int p1)] [(.int p1)])) _
    refine XS.iconst X0.here hx rfl (hb hby d2_19) ?_
    show Steps p.tables e below (s₁.setTop (mkF m 20 #[.val (.int p1)] [(.int (3 : Int32)), (.int p1)])) _
    refine XS.icmpNo X0.here hx rfl (hb hby d2_20) rfl (teq hc20).2 ?_
    show Steps p.tables e below (s₁.setTop (mkF m 23 #[.val (.int p1)] [])) _
    refine st3 _ ?_
    show Steps p.tables e below (T3.setTop (mkF m 26 #[.val (.int p1)] [(.ref w2)])) _
    jvm_step X3.here [X3.here.top, hx, (hb hby d2_26), X3.method', Bd.returns, Value.isRef, FieldType.isReference]
    first | (intro acts; rw [hr _ acts rfl rfl rfl]) | rw [hr _ _ rfl rfl rfl]
    exact Steps.refl _
  · show Q1 (.ref w2) h0 n0 _ T3.heap _
    rw [e3]
    exact ⟨rfl, N0, rfl⟩


set_option maxRecDepth 65536 in
set_option maxHeartbeats 40000000 in
theorem rm2_3 (l : Launch) (Z : State) (a0 : Array Value) (hw : ∀ d ∈ tables_1, d.before a0 Z = true) (ws : List Jvm.Cond) (p1 : Int32) (w2 : Addr) (h0 : Heap) (n0 : Nat) (Z0 : n0 ≤ h0.size) (S_GET_DATA : Sta Z h0 "com/example/ulmus/ulmus/core/wire/OpCode" "GET_DATA" "Lcom/example/ulmus/ulmus/core/wire/OpCode;" (.ref w2)) (hc2 : ¬ (p1 = (1 : Int32))) (hc11 : ¬ (p1 = (2 : Int32))) (hc20 : ¬ (p1 = (3 : Int32))) (hc29 : p1 = (4 : Int32)) :
    MetFree l (⟨"com/example/ulmus/ulmus/core/wire/OpCodeOfPinLaw", "expected", "(I)Lcom/example/ulmus/ulmus/core/wire/OpCode;"⟩ : MethodName) (head1 (Jvm.Cond.code (⟨"com/example/ulmus/ulmus/core/wire/OpCodeOfPinLaw", "expected", "(I)Lcom/example/ulmus/ulmus/core/wire/OpCode;"⟩ : MethodName) method_3_code 1 (some (.object "com/example/ulmus/ulmus/core/wire/OpCode")) :: ws) ({ frames := 0, cells := 0, slots := 0, locals := 0 } : Room)) (fun a U => a = #[(.int p1)] ∧ Z.Warmed39 U.vm ∧ U.heap = h0) (fun _ _ _ _ _ => True) (fun _ U o U' => ∃ v L, o = .returned v ∧ Q1 (.ref w2) h0 n0 v U'.heap L ∧ FrameEnd U o U' L ({ frames := 0, cells := 0, slots := 0, locals := 0 } : Room).cells ({ frames := 0, cells := 0, slots := 0, locals := 0 } : Room).slots) := by
  refine MetFree.of_bodySF (plainFor_of_name pn_2) hisR ?_
  intro p e s m args below meth c s₁ Bd hml0 hP hK
  obtain ⟨rfl, hZ, hh⟩ := hP
  have hx := Bd.exec
  have hby := Bd.bytes
  have hml : c.maxLocals = 1 := hml0
  have hown : s.vm.findClass "com/example/ulmus/ulmus/core/wire/OpCodeOfPinLaw" = some m.cls := findClass_of_methodNamed Bd.named
  have hnm := (name_of_methodNamed Bd.named Bd.method).1
  have X0 : Stand p l e ({ frames := 0, cells := 0, slots := 0, locals := 0 } : Room) s m #[(.int p1)] below meth c s₁ [] 0 0 := Stand.of_body Bd
  have e0 : s₁.heap = h0 := by rw [← hh, Bd.state]; rfl
  have N0 := Fr.nil n0
  have pre0 : ∀ t, Steps p.tables e below (s₁.setTop (mkF m 0 #[.val (.int p1)] [])) t → Steps p.tables e below (s₁.setTop (entryFrame m #[(.int p1)] 1)) t := fun t k => castTop (ef_2 m p1) k
  obtain ⟨T3, X3, e3, st3⟩ := getS2 X0 hx hZ hown (host := "") (Or.inl (hw _ (List.mem_of_getElem? (i := 17) rfl))) Via.refl e0 S_GET_DATA (g := (mkF m 32 #[.val (.int p1)] [])) rfl (hb hby d2_32)
  obtain ⟨fs, hr, hrun, hended, hW, hsame⟩ := X3.leave (v := some (.ref w2)) (fun h => by rw [Bd.returns] at h; cases h)
  refine ⟨_, _, pre0 _ ?_, hrun, hended, _, _, rfl, ?_, ⟨_, rfl⟩, hW, hsame.mono (by decide) (by decide)⟩
  · show Steps p.tables e below (s₁.setTop (mkF m 0 #[.val (.int p1)] [])) _
    refine XS.iloadN X0.here hx rfl (hb hby d2_0) rfl ?_
    show Steps p.tables e below (s₁.setTop (mkF m 1 #[.val (.int p1)] [(.int p1)])) _
    refine XS.iconst X0.here hx rfl (hb hby d2_1) ?_
    show Steps p.tables e below (s₁.setTop (mkF m 2 #[.val (.int p1)] [(.int (1 : Int32)), (.int p1)])) _
    refine XS.icmpYes X0.here hx rfl (pc0 := 2) (pc' := 9) rfl (hb hby d2_2) rfl (feq hc2).2 (by decide) (by decide) ?_
    show Steps p.tables e below (s₁.setTop (mkF m 9 #[.val (.int p1)] [])) _
    refine XS.iloadN X0.here hx rfl (hb hby d2_9) rfl ?_
    show Steps p.tables e below (s₁.setTop (mkF m 10 #[.val (.int p1)] [(.int p1)])) _
    refine XS.iconst X0.here hx rfl (hb hby d2_10) ?_
    show Steps p.tables e below (s₁.setTop (mkF m 11 #[.val (.int p1)] [(.int (2 : Int32)), (.int p1)])) _
    refine XS.icmpYes X0.here hx rfl (pc0 := 11) (pc' := 18) rfl (hb hby d2_11) rfl (feq hc11).2 (by decide) (by decide) ?_
    show Steps p.tables e below (s₁.setTop (mkF m 18 #[.val (.int p1)] [])) _
    refine XS.iloadN X0.here hx rfl (hb hby d2_18) rfl ?_
    show Steps p.tables e below (s₁.setTop (mkF m 19 #[.val (.int p1)] [(.int p1)])) _
    refine XS.iconst X0.here hx rfl (hb hby d2_19) ?_
    show Steps p.tables e below (s₁.setTop (mkF m 20 #[.val (.int p1)] [(.int (3 : Int32)), (.int p1)])) _
    refine XS.icmpYes X0.here hx rfl (pc0 := 20) (pc' := 27) rfl (hb hby d2_20) rfl (feq hc20).2 (by decide) (by decide) ?_
    show Steps p.tables e below (s₁.setTop (mkF m 27 #[.val (.int p1)] [])) _
    refine XS.iloadN X0.here hx rfl (hb hby d2_27) rfl ?_
    show Steps p.tables e below (s₁.setTop (mkF m 28 #[.val (.int p1)] [(.int p1)])) _
    refine XS.iconst X0.here hx rfl (hb hby d2_28) ?_
    show Steps p.tables e below (s₁.setTop (mkF m 29 #[.val (.int p1)] [(.int (4 : Int32)), (.int p1)])) _
    refine XS.icmpNo X0.here hx rfl (hb hby d2_29) rfl (teq hc29).2 ?_
    show Steps p.tables e below (s₁.setTop (mkF m 32 #[.val (.int p1)] [])) _
    refine st3 _ ?_
    show Steps p.tables e below (T3.setTop (mkF m 35 #[.val (.int p1)] [(.ref w2)])) _
    jvm_step X3.here [X3.here.top, hx, (hb hby d2_35), X3.method', Bd.returns, Value.isRef, FieldType.isReference]
    first | (intro acts; rw [hr _ acts rfl rfl rfl]) | rw [hr _ _ rfl rfl rfl]
    exact Steps.refl _
  · show Q1 (.ref w2) h0 n0 _ T3.heap _
    rw [e3]
    exact ⟨rfl, N0, rfl⟩


set_option maxRecDepth 65536 in
set_option maxHeartbeats 40000000 in
theorem rm2_4 (l : Launch) (Z : State) (a0 : Array Value) (hw : ∀ d ∈ tables_1, d.before a0 Z = true) (ws : List Jvm.Cond) (p1 : Int32) (w2 : Addr) (h0 : Heap) (n0 : Nat) (Z0 : n0 ≤ h0.size) (S_SET_DATA : Sta Z h0 "com/example/ulmus/ulmus/core/wire/OpCode" "SET_DATA" "Lcom/example/ulmus/ulmus/core/wire/OpCode;" (.ref w2)) (hc2 : ¬ (p1 = (1 : Int32))) (hc11 : ¬ (p1 = (2 : Int32))) (hc20 : ¬ (p1 = (3 : Int32))) (hc29 : ¬ (p1 = (4 : Int32))) (hc38 : p1 = (5 : Int32)) :
    MetFree l (⟨"com/example/ulmus/ulmus/core/wire/OpCodeOfPinLaw", "expected", "(I)Lcom/example/ulmus/ulmus/core/wire/OpCode;"⟩ : MethodName) (head1 (Jvm.Cond.code (⟨"com/example/ulmus/ulmus/core/wire/OpCodeOfPinLaw", "expected", "(I)Lcom/example/ulmus/ulmus/core/wire/OpCode;"⟩ : MethodName) method_3_code 1 (some (.object "com/example/ulmus/ulmus/core/wire/OpCode")) :: ws) ({ frames := 0, cells := 0, slots := 0, locals := 0 } : Room)) (fun a U => a = #[(.int p1)] ∧ Z.Warmed39 U.vm ∧ U.heap = h0) (fun _ _ _ _ _ => True) (fun _ U o U' => ∃ v L, o = .returned v ∧ Q1 (.ref w2) h0 n0 v U'.heap L ∧ FrameEnd U o U' L ({ frames := 0, cells := 0, slots := 0, locals := 0 } : Room).cells ({ frames := 0, cells := 0, slots := 0, locals := 0 } : Room).slots) := by
  refine MetFree.of_bodySF (plainFor_of_name pn_2) hisR ?_
  intro p e s m args below meth c s₁ Bd hml0 hP hK
  obtain ⟨rfl, hZ, hh⟩ := hP
  have hx := Bd.exec
  have hby := Bd.bytes
  have hml : c.maxLocals = 1 := hml0
  have hown : s.vm.findClass "com/example/ulmus/ulmus/core/wire/OpCodeOfPinLaw" = some m.cls := findClass_of_methodNamed Bd.named
  have hnm := (name_of_methodNamed Bd.named Bd.method).1
  have X0 : Stand p l e ({ frames := 0, cells := 0, slots := 0, locals := 0 } : Room) s m #[(.int p1)] below meth c s₁ [] 0 0 := Stand.of_body Bd
  have e0 : s₁.heap = h0 := by rw [← hh, Bd.state]; rfl
  have N0 := Fr.nil n0
  have pre0 : ∀ t, Steps p.tables e below (s₁.setTop (mkF m 0 #[.val (.int p1)] [])) t → Steps p.tables e below (s₁.setTop (entryFrame m #[(.int p1)] 1)) t := fun t k => castTop (ef_2 m p1) k
  obtain ⟨T3, X3, e3, st3⟩ := getS2 X0 hx hZ hown (host := "") (Or.inl (hw _ (List.mem_of_getElem? (i := 39) rfl))) Via.refl e0 S_SET_DATA (g := (mkF m 41 #[.val (.int p1)] [])) rfl (hb hby d2_41)
  obtain ⟨fs, hr, hrun, hended, hW, hsame⟩ := X3.leave (v := some (.ref w2)) (fun h => by rw [Bd.returns] at h; cases h)
  refine ⟨_, _, pre0 _ ?_, hrun, hended, _, _, rfl, ?_, ⟨_, rfl⟩, hW, hsame.mono (by decide) (by decide)⟩
  · show Steps p.tables e below (s₁.setTop (mkF m 0 #[.val (.int p1)] [])) _
    refine XS.iloadN X0.here hx rfl (hb hby d2_0) rfl ?_
    show Steps p.tables e below (s₁.setTop (mkF m 1 #[.val (.int p1)] [(.int p1)])) _
    refine XS.iconst X0.here hx rfl (hb hby d2_1) ?_
    show Steps p.tables e below (s₁.setTop (mkF m 2 #[.val (.int p1)] [(.int (1 : Int32)), (.int p1)])) _
    refine XS.icmpYes X0.here hx rfl (pc0 := 2) (pc' := 9) rfl (hb hby d2_2) rfl (feq hc2).2 (by decide) (by decide) ?_
    show Steps p.tables e below (s₁.setTop (mkF m 9 #[.val (.int p1)] [])) _
    refine XS.iloadN X0.here hx rfl (hb hby d2_9) rfl ?_
    show Steps p.tables e below (s₁.setTop (mkF m 10 #[.val (.int p1)] [(.int p1)])) _
    refine XS.iconst X0.here hx rfl (hb hby d2_10) ?_
    show Steps p.tables e below (s₁.setTop (mkF m 11 #[.val (.int p1)] [(.int (2 : Int32)), (.int p1)])) _
    refine XS.icmpYes X0.here hx rfl (pc0 := 11) (pc' := 18) rfl (hb hby d2_11) rfl (feq hc11).2 (by decide) (by decide) ?_
    show Steps p.tables e below (s₁.setTop (mkF m 18 #[.val (.int p1)] [])) _
    refine XS.iloadN X0.here hx rfl (hb hby d2_18) rfl ?_
    show Steps p.tables e below (s₁.setTop (mkF m 19 #[.val (.int p1)] [(.int p1)])) _
    refine XS.iconst X0.here hx rfl (hb hby d2_19) ?_
    show Steps p.tables e below (s₁.setTop (mkF m 20 #[.val (.int p1)] [(.int (3 : Int32)), (.int p1)])) _
    refine XS.icmpYes X0.here hx rfl (pc0 := 20) (pc' := 27) rfl (hb hby d2_20) rfl (feq hc20).2 (by decide) (by decide) ?_
    show Steps p.tables e below (s₁.setTop (mkF m 27 #[.val (.int p1)] [])) _
    refine XS.iloadN X0.here hx rfl (hb hby d2_27) rfl ?_
    show Steps p.tables e below (s₁.setTop (mkF m 28 #[.val (.int p1)] [(.int p1)])) _
    refine XS.iconst X0.here hx rfl (hb hby d2_28) ?_
    show Steps p.tables e below (s₁.setTop (mkF m 29 #[.val (.int p1)] [(.int (4 : Int32)), (.int p1)])) _
    refine XS.icmpYes X0.here hx rfl (pc0 := 29) (pc' := 36) rfl (hb hby d2_29) rfl (feq hc29).2 (by decide) (by decide) ?_
    show Steps p.tables e below (s₁.setTop (mkF m 36 #[.val (.int p1)] [])) _
    refine XS.iloadN X0.here hx rfl (hb hby d2_36) rfl ?_
    show Steps p.tables e below (s₁.setTop (mkF m 37 #[.val (.int p1)] [(.int p1)])) _
    refine XS.iconst X0.here hx rfl (hb hby d2_37) ?_
    show Steps p.tables e below (s₁.setTop (mkF m 38 #[.val (.int p1)] [(.int (5 : Int32)), (.int p1)])) _
    refine XS.icmpNo X0.here hx rfl (hb hby d2_38) rfl (teq hc38).2 ?_
    show Steps p.tables e below (s₁.setTop (mkF m 41 #[.val (.int p1)] [])) _
    refine st3 _ ?_
    show Steps p.tables e below (T3.setTop (mkF m 44 #[.val (.int p1)] [(.ref w2)])) _
    jvm_step X3.here [X3.here.top, hx, (hb hby d2_44), X3.method', Bd.returns, Value.isRef, FieldType.isReference]
    first | (intro acts; rw [hr _ acts rfl rfl rfl]) | rw [hr _ _ rfl rfl rfl]
    exact Steps.refl _
  · show Q1 (.ref w2) h0 n0 _ T3.heap _
    rw [e3]
    exact ⟨rfl, N0, rfl⟩


set_option maxRecDepth 65536 in
set_option maxHeartbeats 40000000 in
theorem rm2_5 (l : Launch) (Z : State) (a0 : Array Value) (hw : ∀ d ∈ tables_1, d.before a0 Z = true) (ws : List Jvm.Cond) (p1 : Int32) (w2 : Addr) (h0 : Heap) (n0 : Nat) (Z0 : n0 ≤ h0.size) (S_GET_ACL : Sta Z h0 "com/example/ulmus/ulmus/core/wire/OpCode" "GET_ACL" "Lcom/example/ulmus/ulmus/core/wire/OpCode;" (.ref w2)) (hc2 : ¬ (p1 = (1 : Int32))) (hc11 : ¬ (p1 = (2 : Int32))) (hc20 : ¬ (p1 = (3 : Int32))) (hc29 : ¬ (p1 = (4 : Int32))) (hc38 : ¬ (p1 = (5 : Int32))) (hc48 : p1 = (6 : Int32)) :
    MetFree l (⟨"com/example/ulmus/ulmus/core/wire/OpCodeOfPinLaw", "expected", "(I)Lcom/example/ulmus/ulmus/core/wire/OpCode;"⟩ : MethodName) (head1 (Jvm.Cond.code (⟨"com/example/ulmus/ulmus/core/wire/OpCodeOfPinLaw", "expected", "(I)Lcom/example/ulmus/ulmus/core/wire/OpCode;"⟩ : MethodName) method_3_code 1 (some (.object "com/example/ulmus/ulmus/core/wire/OpCode")) :: ws) ({ frames := 0, cells := 0, slots := 0, locals := 0 } : Room)) (fun a U => a = #[(.int p1)] ∧ Z.Warmed39 U.vm ∧ U.heap = h0) (fun _ _ _ _ _ => True) (fun _ U o U' => ∃ v L, o = .returned v ∧ Q1 (.ref w2) h0 n0 v U'.heap L ∧ FrameEnd U o U' L ({ frames := 0, cells := 0, slots := 0, locals := 0 } : Room).cells ({ frames := 0, cells := 0, slots := 0, locals := 0 } : Room).slots) := by
  refine MetFree.of_bodySF (plainFor_of_name pn_2) hisR ?_
  intro p e s m args below meth c s₁ Bd hml0 hP hK
  obtain ⟨rfl, hZ, hh⟩ := hP
  have hx := Bd.exec
  have hby := Bd.bytes
  have hml : c.maxLocals = 1 := hml0
  have hown : s.vm.findClass "com/example/ulmus/ulmus/core/wire/OpCodeOfPinLaw" = some m.cls := findClass_of_methodNamed Bd.named
  have hnm := (name_of_methodNamed Bd.named Bd.method).1
  have X0 : Stand p l e ({ frames := 0, cells := 0, slots := 0, locals := 0 } : Room) s m #[(.int p1)] below meth c s₁ [] 0 0 := Stand.of_body Bd
  have e0 : s₁.heap = h0 := by rw [← hh, Bd.state]; rfl
  have N0 := Fr.nil n0
  have pre0 : ∀ t, Steps p.tables e below (s₁.setTop (mkF m 0 #[.val (.int p1)] [])) t → Steps p.tables e below (s₁.setTop (entryFrame m #[(.int p1)] 1)) t := fun t k => castTop (ef_2 m p1) k
  obtain ⟨T3, X3, e3, st3⟩ := getS2 X0 hx hZ hown (host := "") (Or.inl (hw _ (List.mem_of_getElem? (i := 35) rfl))) Via.refl e0 S_GET_ACL (g := (mkF m 51 #[.val (.int p1)] [])) rfl (hb hby d2_51)
  obtain ⟨fs, hr, hrun, hended, hW, hsame⟩ := X3.leave (v := some (.ref w2)) (fun h => by rw [Bd.returns] at h; cases h)
  refine ⟨_, _, pre0 _ ?_, hrun, hended, _, _, rfl, ?_, ⟨_, rfl⟩, hW, hsame.mono (by decide) (by decide)⟩
  · show Steps p.tables e below (s₁.setTop (mkF m 0 #[.val (.int p1)] [])) _
    refine XS.iloadN X0.here hx rfl (hb hby d2_0) rfl ?_
    show Steps p.tables e below (s₁.setTop (mkF m 1 #[.val (.int p1)] [(.int p1)])) _
    refine XS.iconst X0.here hx rfl (hb hby d2_1) ?_
    show Steps p.tables e below (s₁.setTop (mkF m 2 #[.val (.int p1)] [(.int (1 : Int32)), (.int p1)])) _
    refine XS.icmpYes X0.here hx rfl (pc0 := 2) (pc' := 9) rfl (hb hby d2_2) rfl (feq hc2).2 (by decide) (by decide) ?_
    show Steps p.tables e below (s₁.setTop (mkF m 9 #[.val (.int p1)] [])) _
    refine XS.iloadN X0.here hx rfl (hb hby d2_9) rfl ?_
    show Steps p.tables e below (s₁.setTop (mkF m 10 #[.val (.int p1)] [(.int p1)])) _
    refine XS.iconst X0.here hx rfl (hb hby d2_10) ?_
    show Steps p.tables e below (s₁.setTop (mkF m 11 #[.val (.int p1)] [(.int (2 : Int32)), (.int p1)])) _
    refine XS.icmpYes X0.here hx rfl (pc0 := 11) (pc' := 18) rfl (hb hby d2_11) rfl (feq hc11).2 (by decide) (by decide) ?_
    show Steps p.tables e below (s₁.setTop (mkF m 18 #[.val (.int p1)] [])) _
    refine XS.iloadN X0.here hx rfl (hb hby d2_18) rfl ?_
    show Steps p.tables e below (s₁.setTop (mkF m 19 #[.val (.int p1)] [(.int p1)])) _
    refine XS.iconst X0.here hx rfl (hb hby d2_19) ?_
    show Steps p.tables e below (s₁.setTop (mkF m 20 #[.val (.int p1)] [(.int (3 : Int32)), (.int p1)])) _
    refine XS.icmpYes X0.here hx rfl (pc0 := 20) (pc' := 27) rfl (hb hby d2_20) rfl (feq hc20).2 (by decide) (by decide) ?_
    show Steps p.tables e below (s₁.setTop (mkF m 27 #[.val (.int p1)] [])) _
    refine XS.iloadN X0.here hx rfl (hb hby d2_27) rfl ?_
    show Steps p.tables e below (s₁.setTop (mkF m 28 #[.val (.int p1)] [(.int p1)])) _
    refine XS.iconst X0.here hx rfl (hb hby d2_28) ?_
    show Steps p.tables e below (s₁.setTop (mkF m 29 #[.val (.int p1)] [(.int (4 : Int32)), (.int p1)])) _
    refine XS.icmpYes X0.here hx rfl (pc0 := 29) (pc' := 36) rfl (hb hby d2_29) rfl (feq hc29).2 (by decide) (by decide) ?_
    show Steps p.tables e below (s₁.setTop (mkF m 36 #[.val (.int p1)] [])) _
    refine XS.iloadN X0.here hx rfl (hb hby d2_36) rfl ?_
    show Steps p.tables e below (s₁.setTop (mkF m 37 #[.val (.int p1)] [(.int p1)])) _
    refine XS.iconst X0.here hx rfl (hb hby d2_37) ?_
    show Steps p.tables e below (s₁.setTop (mkF m 38 #[.val (.int p1)] [(.int (5 : Int32)), (.int p1)])) _
    refine XS.icmpYes X0.here hx rfl (pc0 := 38) (pc' := 45) rfl (hb hby d2_38) rfl (feq hc38).2 (by decide) (by decide) ?_
    show Steps p.tables e below (s₁.setTop (mkF m 45 #[.val (.int p1)] [])) _
    refine XS.iloadN X0.here hx rfl (hb hby d2_45) rfl ?_
    show Steps p.tables e below (s₁.setTop (mkF m 46 #[.val (.int p1)] [(.int p1)])) _
    refine XS.bipush X0.here hx rfl (hb hby d2_46) ?_
    show Steps p.tables e below (s₁.setTop (mkF m 48 #[.val (.int p1)] [(.int (6 : Int32)), (.int p1)])) _
    refine XS.icmpNo X0.here hx rfl (hb hby d2_48) rfl (teq hc48).2 ?_
    show Steps p.tables e below (s₁.setTop (mkF m 51 #[.val (.int p1)] [])) _
    refine st3 _ ?_
    show Steps p.tables e below (T3.setTop (mkF m 54 #[.val (.int p1)] [(.ref w2)])) _
    jvm_step X3.here [X3.here.top, hx, (hb hby d2_54), X3.method', Bd.returns, Value.isRef, FieldType.isReference]
    first | (intro acts; rw [hr _ acts rfl rfl rfl]) | rw [hr _ _ rfl rfl rfl]
    exact Steps.refl _
  · show Q1 (.ref w2) h0 n0 _ T3.heap _
    rw [e3]
    exact ⟨rfl, N0, rfl⟩


set_option maxRecDepth 65536 in
set_option maxHeartbeats 40000000 in
theorem rm2_6 (l : Launch) (Z : State) (a0 : Array Value) (hw : ∀ d ∈ tables_1, d.before a0 Z = true) (ws : List Jvm.Cond) (p1 : Int32) (w2 : Addr) (h0 : Heap) (n0 : Nat) (Z0 : n0 ≤ h0.size) (S_SET_ACL : Sta Z h0 "com/example/ulmus/ulmus/core/wire/OpCode" "SET_ACL" "Lcom/example/ulmus/ulmus/core/wire/OpCode;" (.ref w2)) (hc2 : ¬ (p1 = (1 : Int32))) (hc11 : ¬ (p1 = (2 : Int32))) (hc20 : ¬ (p1 = (3 : Int32))) (hc29 : ¬ (p1 = (4 : Int32))) (hc38 : ¬ (p1 = (5 : Int32))) (hc48 : ¬ (p1 = (6 : Int32))) (hc58 : p1 = (7 : Int32)) :
    MetFree l (⟨"com/example/ulmus/ulmus/core/wire/OpCodeOfPinLaw", "expected", "(I)Lcom/example/ulmus/ulmus/core/wire/OpCode;"⟩ : MethodName) (head1 (Jvm.Cond.code (⟨"com/example/ulmus/ulmus/core/wire/OpCodeOfPinLaw", "expected", "(I)Lcom/example/ulmus/ulmus/core/wire/OpCode;"⟩ : MethodName) method_3_code 1 (some (.object "com/example/ulmus/ulmus/core/wire/OpCode")) :: ws) ({ frames := 0, cells := 0, slots := 0, locals := 0 } : Room)) (fun a U => a = #[(.int p1)] ∧ Z.Warmed39 U.vm ∧ U.heap = h0) (fun _ _ _ _ _ => True) (fun _ U o U' => ∃ v L, o = .returned v ∧ Q1 (.ref w2) h0 n0 v U'.heap L ∧ FrameEnd U o U' L ({ frames := 0, cells := 0, slots := 0, locals := 0 } : Room).cells ({ frames := 0, cells := 0, slots := 0, locals := 0 } : Room).slots) := by
  refine MetFree.of_bodySF (plainFor_of_name pn_2) hisR ?_
  intro p e s m args below meth c s₁ Bd hml0 hP hK
  obtain ⟨rfl, hZ, hh⟩ := hP
  have hx := Bd.exec
  have hby := Bd.bytes
  have hml : c.maxLocals = 1 := hml0
  have hown : s.vm.findClass "com/example/ulmus/ulmus/core/wire/OpCodeOfPinLaw" = some m.cls := findClass_of_methodNamed Bd.named
  have hnm := (name_of_methodNamed Bd.named Bd.method).1
  have X0 : Stand p l e ({ frames := 0, cells := 0, slots := 0, locals := 0 } : Room) s m #[(.int p1)] below meth c s₁ [] 0 0 := Stand.of_body Bd
  have e0 : s₁.heap = h0 := by rw [← hh, Bd.state]; rfl
  have N0 := Fr.nil n0
  have pre0 : ∀ t, Steps p.tables e below (s₁.setTop (mkF m 0 #[.val (.int p1)] [])) t → Steps p.tables e below (s₁.setTop (entryFrame m #[(.int p1)] 1)) t := fun t k => castTop (ef_2 m p1) k
  obtain ⟨T3, X3, e3, st3⟩ := getS2 X0 hx hZ hown (host := "") (Or.inl (hw _ (List.mem_of_getElem? (i := 46) rfl))) Via.refl e0 S_SET_ACL (g := (mkF m 61 #[.val (.int p1)] [])) rfl (hb hby d2_61)
  obtain ⟨fs, hr, hrun, hended, hW, hsame⟩ := X3.leave (v := some (.ref w2)) (fun h => by rw [Bd.returns] at h; cases h)
  refine ⟨_, _, pre0 _ ?_, hrun, hended, _, _, rfl, ?_, ⟨_, rfl⟩, hW, hsame.mono (by decide) (by decide)⟩
  · show Steps p.tables e below (s₁.setTop (mkF m 0 #[.val (.int p1)] [])) _
    refine XS.iloadN X0.here hx rfl (hb hby d2_0) rfl ?_
    show Steps p.tables e below (s₁.setTop (mkF m 1 #[.val (.int p1)] [(.int p1)])) _
    refine XS.iconst X0.here hx rfl (hb hby d2_1) ?_
    show Steps p.tables e below (s₁.setTop (mkF m 2 #[.val (.int p1)] [(.int (1 : Int32)), (.int p1)])) _
    refine XS.icmpYes X0.here hx rfl (pc0 := 2) (pc' := 9) rfl (hb hby d2_2) rfl (feq hc2).2 (by decide) (by decide) ?_
    show Steps p.tables e below (s₁.setTop (mkF m 9 #[.val (.int p1)] [])) _
    refine XS.iloadN X0.here hx rfl (hb hby d2_9) rfl ?_
    show Steps p.tables e below (s₁.setTop (mkF m 10 #[.val (.int p1)] [(.int p1)])) _
    refine XS.iconst X0.here hx rfl (hb hby d2_10) ?_
    show Steps p.tables e below (s₁.setTop (mkF m 11 #[.val (.int p1)] [(.int (2 : Int32)), (.int p1)])) _
    refine XS.icmpYes X0.here hx rfl (pc0 := 11) (pc' := 18) rfl (hb hby d2_11) rfl (feq hc11).2 (by decide) (by decide) ?_
    show Steps p.tables e below (s₁.setTop (mkF m 18 #[.val (.int p1)] [])) _
    refine XS.iloadN X0.here hx rfl (hb hby d2_18) rfl ?_
    show Steps p.tables e below (s₁.setTop (mkF m 19 #[.val (.int p1)] [(.int p1)])) _
    refine XS.iconst X0.here hx rfl (hb hby d2_19) ?_
    show Steps p.tables e below (s₁.setTop (mkF m 20 #[.val (.int p1)] [(.int (3 : Int32)), (.int p1)])) _
    refine XS.icmpYes X0.here hx rfl (pc0 := 20) (pc' := 27) rfl (hb hby d2_20) rfl (feq hc20).2 (by decide) (by decide) ?_
    show Steps p.tables e below (s₁.setTop (mkF m 27 #[.val (.int p1)] [])) _
    refine XS.iloadN X0.here hx rfl (hb hby d2_27) rfl ?_
    show Steps p.tables e below (s₁.setTop (mkF m 28 #[.val (.int p1)] [(.int p1)])) _
    refine XS.iconst X0.here hx rfl (hb hby d2_28) ?_
    show Steps p.tables e below (s₁.setTop (mkF m 29 #[.val (.int p1)] [(.int (4 : Int32)), (.int p1)])) _
    refine XS.icmpYes X0.here hx rfl (pc0 := 29) (pc' := 36) rfl (hb hby d2_29) rfl (feq hc29).2 (by decide) (by decide) ?_
    show Steps p.tables e below (s₁.setTop (mkF m 36 #[.val (.int p1)] [])) _
    refine XS.iloadN X0.here hx rfl (hb hby d2_36) rfl ?_
    show Steps p.tables e below (s₁.setTop (mkF m 37 #[.val (.int p1)] [(.int p1)])) _
    refine XS.iconst X0.here hx rfl (hb hby d2_37) ?_
    show Steps p.tables e below (s₁.setTop (mkF m 38 #[.val (.int p1)] [(.int (5 : Int32)), (.int p1)])) _
    refine XS.icmpYes X0.here hx rfl (pc0 := 38) (pc' := 45) rfl (hb hby d2_38) rfl (feq hc38).2 (by decide) (by decide) ?_
    show Steps p.tables e below (s₁.setTop (mkF m 45 #[.val (.int p1)] [])) _
    refine XS.iloadN X0.here hx rfl (hb hby d2_45) rfl ?_
    show Steps p.tables e below (s₁.setTop (mkF m 46 #[.val (.int p1)] [(.int p1)])) _
    refine XS.bipush X0.here hx rfl (hb hby d2_46) ?_
    show Steps p.tables e below (s₁.setTop (mkF m 48 #[.val (.int p1)] [(.int (6 : Int32)), (.int p1)])) _
    refine XS.icmpYes X0.here hx rfl (pc0 := 48) (pc' := 55) rfl (hb hby d2_48) rfl (feq hc48).2 (by decide) (by decide) ?_
    show Steps p.tables e below (s₁.setTop (mkF m 55 #[.val (.int p1)] [])) _
    refine XS.iloadN X0.here hx rfl (hb hby d2_55) rfl ?_
    show Steps p.tables e below (s₁.setTop (mkF m 56 #[.val (.int p1)] [(.int p1)])) _
    refine XS.bipush X0.here hx rfl (hb hby d2_56) ?_
    show Steps p.tables e below (s₁.setTop (mkF m 58 #[.val (.int p1)] [(.int (7 : Int32)), (.int p1)])) _
    refine XS.icmpNo X0.here hx rfl (hb hby d2_58) rfl (teq hc58).2 ?_
    show Steps p.tables e below (s₁.setTop (mkF m 61 #[.val (.int p1)] [])) _
    refine st3 _ ?_
    show Steps p.tables e below (T3.setTop (mkF m 64 #[.val (.int p1)] [(.ref w2)])) _
    jvm_step X3.here [X3.here.top, hx, (hb hby d2_64), X3.method', Bd.returns, Value.isRef, FieldType.isReference]
    first | (intro acts; rw [hr _ acts rfl rfl rfl]) | rw [hr _ _ rfl rfl rfl]
    exact Steps.refl _
  · show Q1 (.ref w2) h0 n0 _ T3.heap _
    rw [e3]
    exact ⟨rfl, N0, rfl⟩


set_option maxRecDepth 65536 in
set_option maxHeartbeats 40000000 in
theorem rm2_7 (l : Launch) (Z : State) (a0 : Array Value) (hw : ∀ d ∈ tables_1, d.before a0 Z = true) (ws : List Jvm.Cond) (p1 : Int32) (w2 : Addr) (h0 : Heap) (n0 : Nat) (Z0 : n0 ≤ h0.size) (S_GET_CHILDREN : Sta Z h0 "com/example/ulmus/ulmus/core/wire/OpCode" "GET_CHILDREN" "Lcom/example/ulmus/ulmus/core/wire/OpCode;" (.ref w2)) (hc2 : ¬ (p1 = (1 : Int32))) (hc11 : ¬ (p1 = (2 : Int32))) (hc20 : ¬ (p1 = (3 : Int32))) (hc29 : ¬ (p1 = (4 : Int32))) (hc38 : ¬ (p1 = (5 : Int32))) (hc48 : ¬ (p1 = (6 : Int32))) (hc58 : ¬ (p1 = (7 : Int32))) (hc68 : p1 = (8 : Int32)) :
    MetFree l (⟨"com/example/ulmus/ulmus/core/wire/OpCodeOfPinLaw", "expected", "(I)Lcom/example/ulmus/ulmus/core/wire/OpCode;"⟩ : MethodName) (head1 (Jvm.Cond.code (⟨"com/example/ulmus/ulmus/core/wire/OpCodeOfPinLaw", "expected", "(I)Lcom/example/ulmus/ulmus/core/wire/OpCode;"⟩ : MethodName) method_3_code 1 (some (.object "com/example/ulmus/ulmus/core/wire/OpCode")) :: ws) ({ frames := 0, cells := 0, slots := 0, locals := 0 } : Room)) (fun a U => a = #[(.int p1)] ∧ Z.Warmed39 U.vm ∧ U.heap = h0) (fun _ _ _ _ _ => True) (fun _ U o U' => ∃ v L, o = .returned v ∧ Q1 (.ref w2) h0 n0 v U'.heap L ∧ FrameEnd U o U' L ({ frames := 0, cells := 0, slots := 0, locals := 0 } : Room).cells ({ frames := 0, cells := 0, slots := 0, locals := 0 } : Room).slots) := by
  refine MetFree.of_bodySF (plainFor_of_name pn_2) hisR ?_
  intro p e s m args below meth c s₁ Bd hml0 hP hK
  obtain ⟨rfl, hZ, hh⟩ := hP
  have hx := Bd.exec
  have hby := Bd.bytes
  have hml : c.maxLocals = 1 := hml0
  have hown : s.vm.findClass "com/example/ulmus/ulmus/core/wire/OpCodeOfPinLaw" = some m.cls := findClass_of_methodNamed Bd.named
  have hnm := (name_of_methodNamed Bd.named Bd.method).1
  have X0 : Stand p l e ({ frames := 0, cells := 0, slots := 0, locals := 0 } : Room) s m #[(.int p1)] below meth c s₁ [] 0 0 := Stand.of_body Bd
  have e0 : s₁.heap = h0 := by rw [← hh, Bd.state]; rfl
  have N0 := Fr.nil n0
  have pre0 : ∀ t, Steps p.tables e below (s₁.setTop (mkF m 0 #[.val (.int p1)] [])) t → Steps p.tables e below (s₁.setTop (entryFrame m #[(.int p1)] 1)) t := fun t k => castTop (ef_2 m p1) k
  obtain ⟨T3, X3, e3, st3⟩ := getS2 X0 hx hZ hown (host := "") (Or.inl (hw _ (List.mem_of_getElem? (i := 34) rfl))) Via.refl e0 S_GET_CHILDREN (g := (mkF m 71 #[.val (.int p1)] [])) rfl (hb hby d2_71)
  obtain ⟨fs, hr, hrun, hended, hW, hsame⟩ := X3.leave (v := some (.ref w2)) (fun h => by rw [Bd.returns] at h; cases h)
  refine ⟨_, _, pre0 _ ?_, hrun, hended, _, _, rfl, ?_, ⟨_, rfl⟩, hW, hsame.mono (by decide) (by decide)⟩
  · show Steps p.tables e below (s₁.setTop (mkF m 0 #[.val (.int p1)] [])) _
    refine XS.iloadN X0.here hx rfl (hb hby d2_0) rfl ?_
    show Steps p.tables e below (s₁.setTop (mkF m 1 #[.val (.int p1)] [(.int p1)])) _
    refine XS.iconst X0.here hx rfl (hb hby d2_1) ?_
    show Steps p.tables e below (s₁.setTop (mkF m 2 #[.val (.int p1)] [(.int (1 : Int32)), (.int p1)])) _
    refine XS.icmpYes X0.here hx rfl (pc0 := 2) (pc' := 9) rfl (hb hby d2_2) rfl (feq hc2).2 (by decide) (by decide) ?_
    show Steps p.tables e below (s₁.setTop (mkF m 9 #[.val (.int p1)] [])) _
    refine XS.iloadN X0.here hx rfl (hb hby d2_9) rfl ?_
    show Steps p.tables e below (s₁.setTop (mkF m 10 #[.val (.int p1)] [(.int p1)])) _
    refine XS.iconst X0.here hx rfl (hb hby d2_10) ?_
    show Steps p.tables e below (s₁.setTop (mkF m 11 #[.val (.int p1)] [(.int (2 : Int32)), (.int p1)])) _
    refine XS.icmpYes X0.here hx rfl (pc0 := 11) (pc' := 18) rfl (hb hby d2_11) rfl (feq hc11).2 (by decide) (by decide) ?_
    show Steps p.tables e below (s₁.setTop (mkF m 18 #[.val (.int p1)] [])) _
    refine XS.iloadN X0.here hx rfl (hb hby d2_18) rfl ?_
    show Steps p.tables e below (s₁.setTop (mkF m 19 #[.val (.int p1)] [(.int p1)])) _
    refine XS.iconst X0.here hx rfl (hb hby d2_19) ?_
    show Steps p.tables e below (s₁.setTop (mkF m 20 #[.val (.int p1)] [(.int (3 : Int32)), (.int p1)])) _
    refine XS.icmpYes X0.here hx rfl (pc0 := 20) (pc' := 27) rfl (hb hby d2_20) rfl (feq hc20).2 (by decide) (by decide) ?_
    show Steps p.tables e below (s₁.setTop (mkF m 27 #[.val (.int p1)] [])) _
    refine XS.iloadN X0.here hx rfl (hb hby d2_27) rfl ?_
    show Steps p.tables e below (s₁.setTop (mkF m 28 #[.val (.int p1)] [(.int p1)])) _
    refine XS.iconst X0.here hx rfl (hb hby d2_28) ?_
    show Steps p.tables e below (s₁.setTop (mkF m 29 #[.val (.int p1)] [(.int (4 : Int32)), (.int p1)])) _
    refine XS.icmpYes X0.here hx rfl (pc0 := 29) (pc' := 36) rfl (hb hby d2_29) rfl (feq hc29).2 (by decide) (by decide) ?_
    show Steps p.tables e below (s₁.setTop (mkF m 36 #[.val (.int p1)] [])) _
    refine XS.iloadN X0.here hx rfl (hb hby d2_36) rfl ?_
    show Steps p.tables e below (s₁.setTop (mkF m 37 #[.val (.int p1)] [(.int p1)])) _
    refine XS.iconst X0.here hx rfl (hb hby d2_37) ?_
    show Steps p.tables e below (s₁.setTop (mkF m 38 #[.val (.int p1)] [(.int (5 : Int32)), (.int p1)])) _
    refine XS.icmpYes X0.here hx rfl (pc0 := 38) (pc' := 45) rfl (hb hby d2_38) rfl (feq hc38).2 (by decide) (by decide) ?_
    show Steps p.tables e below (s₁.setTop (mkF m 45 #[.val (.int p1)] [])) _
    refine XS.iloadN X0.here hx rfl (hb hby d2_45) rfl ?_
    show Steps p.tables e below (s₁.setTop (mkF m 46 #[.val (.int p1)] [(.int p1)])) _
    refine XS.bipush X0.here hx rfl (hb hby d2_46) ?_
    show Steps p.tables e below (s₁.setTop (mkF m 48 #[.val (.int p1)] [(.int (6 : Int32)), (.int p1)])) _
    refine XS.icmpYes X0.here hx rfl (pc0 := 48) (pc' := 55) rfl (hb hby d2_48) rfl (feq hc48).2 (by decide) (by decide) ?_
    show Steps p.tables e below (s₁.setTop (mkF m 55 #[.val (.int p1)] [])) _
    refine XS.iloadN X0.here hx rfl (hb hby d2_55) rfl ?_
    show Steps p.tables e below (s₁.setTop (mkF m 56 #[.val (.int p1)] [(.int p1)])) _
    refine XS.bipush X0.here hx rfl (hb hby d2_56) ?_
    show Steps p.tables e below (s₁.setTop (mkF m 58 #[.val (.int p1)] [(.int (7 : Int32)), (.int p1)])) _
    refine XS.icmpYes X0.here hx rfl (pc0 := 58) (pc' := 65) rfl (hb hby d2_58) rfl (feq hc58).2 (by decide) (by decide) ?_
    show Steps p.tables e below (s₁.setTop (mkF m 65 #[.val (.int p1)] [])) _
    refine XS.iloadN X0.here hx rfl (hb hby d2_65) rfl ?_
    show Steps p.tables e below (s₁.setTop (mkF m 66 #[.val (.int p1)] [(.int p1)])) _
    refine XS.bipush X0.here hx rfl (hb hby d2_66) ?_
    show Steps p.tables e below (s₁.setTop (mkF m 68 #[.val (.int p1)] [(.int (8 : Int32)), (.int p1)])) _
    refine XS.icmpNo X0.here hx rfl (hb hby d2_68) rfl (teq hc68).2 ?_
    show Steps p.tables e below (s₁.setTop (mkF m 71 #[.val (.int p1)] [])) _
    refine st3 _ ?_
    show Steps p.tables e below (T3.setTop (mkF m 74 #[.val (.int p1)] [(.ref w2)])) _
    jvm_step X3.here [X3.here.top, hx, (hb hby d2_74), X3.method', Bd.returns, Value.isRef, FieldType.isReference]
    first | (intro acts; rw [hr _ acts rfl rfl rfl]) | rw [hr _ _ rfl rfl rfl]
    exact Steps.refl _
  · show Q1 (.ref w2) h0 n0 _ T3.heap _
    rw [e3]
    exact ⟨rfl, N0, rfl⟩


set_option maxRecDepth 65536 in
set_option maxHeartbeats 40000000 in
theorem rm2_8 (l : Launch) (Z : State) (a0 : Array Value) (hw : ∀ d ∈ tables_1, d.before a0 Z = true) (ws : List Jvm.Cond) (p1 : Int32) (w2 : Addr) (h0 : Heap) (n0 : Nat) (Z0 : n0 ≤ h0.size) (S_SYNC : Sta Z h0 "com/example/ulmus/ulmus/core/wire/OpCode" "SYNC" "Lcom/example/ulmus/ulmus/core/wire/OpCode;" (.ref w2)) (hc2 : ¬ (p1 = (1 : Int32))) (hc11 : ¬ (p1 = (2 : Int32))) (hc20 : ¬ (p1 = (3 : Int32))) (hc29 : ¬ (p1 = (4 : Int32))) (hc38 : ¬ (p1 = (5 : Int32))) (hc48 : ¬ (p1 = (6 : Int32))) (hc58 : ¬ (p1 = (7 : Int32))) (hc68 : ¬ (p1 = (8 : Int32))) (hc78 : p1 = (9 : Int32)) :
    MetFree l (⟨"com/example/ulmus/ulmus/core/wire/OpCodeOfPinLaw", "expected", "(I)Lcom/example/ulmus/ulmus/core/wire/OpCode;"⟩ : MethodName) (head1 (Jvm.Cond.code (⟨"com/example/ulmus/ulmus/core/wire/OpCodeOfPinLaw", "expected", "(I)Lcom/example/ulmus/ulmus/core/wire/OpCode;"⟩ : MethodName) method_3_code 1 (some (.object "com/example/ulmus/ulmus/core/wire/OpCode")) :: ws) ({ frames := 0, cells := 0, slots := 0, locals := 0 } : Room)) (fun a U => a = #[(.int p1)] ∧ Z.Warmed39 U.vm ∧ U.heap = h0) (fun _ _ _ _ _ => True) (fun _ U o U' => ∃ v L, o = .returned v ∧ Q1 (.ref w2) h0 n0 v U'.heap L ∧ FrameEnd U o U' L ({ frames := 0, cells := 0, slots := 0, locals := 0 } : Room).cells ({ frames := 0, cells := 0, slots := 0, locals := 0 } : Room).slots) := by
  refine MetFree.of_bodySF (plainFor_of_name pn_2) hisR ?_
  intro p e s m args below meth c s₁ Bd hml0 hP hK
  obtain ⟨rfl, hZ, hh⟩ := hP
  have hx := Bd.exec
  have hby := Bd.bytes
  have hml : c.maxLocals = 1 := hml0
  have hown : s.vm.findClass "com/example/ulmus/ulmus/core/wire/OpCodeOfPinLaw" = some m.cls := findClass_of_methodNamed Bd.named
  have hnm := (name_of_methodNamed Bd.named Bd.method).1
  have X0 : Stand p l e ({ frames := 0, cells := 0, slots := 0, locals := 0 } : Room) s m #[(.int p1)] below meth c s₁ [] 0 0 := Stand.of_body Bd
  have e0 : s₁.heap = h0 := by rw [← hh, Bd.state]; rfl
  have N0 := Fr.nil n0
  have pre0 : ∀ t, Steps p.tables e below (s₁.setTop (mkF m 0 #[.val (.int p1)] [])) t → Steps p.tables e below (s₁.setTop (entryFrame m #[(.int p1)] 1)) t := fun t k => castTop (ef_2 m p1) k
  obtain ⟨T3, X3, e3, st3⟩ := getS2 X0 hx hZ hown (host := "") (Or.inl (hw _ (List.mem_of_getElem? (i := 45) rfl))) Via.refl e0 S_SYNC (g := (mkF m 81 #[.val (.int p1)] [])) rfl (hb hby d2_81)
  obtain ⟨fs, hr, hrun, hended, hW, hsame⟩ := X3.leave (v := some (.ref w2)) (fun h => by rw [Bd.returns] at h; cases h)
  refine ⟨_, _, pre0 _ ?_, hrun, hended, _, _, rfl, ?_, ⟨_, rfl⟩, hW, hsame.mono (by decide) (by decide)⟩
  · show Steps p.tables e below (s₁.setTop (mkF m 0 #[.val (.int p1)] [])) _
    refine XS.iloadN X0.here hx rfl (hb hby d2_0) rfl ?_
    show Steps p.tables e below (s₁.setTop (mkF m 1 #[.val (.int p1)] [(.int p1)])) _
    refine XS.iconst X0.here hx rfl (hb hby d2_1) ?_
    show Steps p.tables e below (s₁.setTop (mkF m 2 #[.val (.int p1)] [(.int (1 : Int32)), (.int p1)])) _
    refine XS.icmpYes X0.here hx rfl (pc0 := 2) (pc' := 9) rfl (hb hby d2_2) rfl (feq hc2).2 (by decide) (by decide) ?_
    show Steps p.tables e below (s₁.setTop (mkF m 9 #[.val (.int p1)] [])) _
    refine XS.iloadN X0.here hx rfl (hb hby d2_9) rfl ?_
    show Steps p.tables e below (s₁.setTop (mkF m 10 #[.val (.int p1)] [(.int p1)])) _
    refine XS.iconst X0.here hx rfl (hb hby d2_10) ?_
    show Steps p.tables e below (s₁.setTop (mkF m 11 #[.val (.int p1)] [(.int (2 : Int32)), (.int p1)])) _
    refine XS.icmpYes X0.here hx rfl (pc0 := 11) (pc' := 18) rfl (hb hby d2_11) rfl (feq hc11).2 (by decide) (by decide) ?_
    show Steps p.tables e below (s₁.setTop (mkF m 18 #[.val (.int p1)] [])) _
    refine XS.iloadN X0.here hx rfl (hb hby d2_18) rfl ?_
    show Steps p.tables e below (s₁.setTop (mkF m 19 #[.val (.int p1)] [(.int p1)])) _
    refine XS.iconst X0.here hx rfl (hb hby d2_19) ?_
    show Steps p.tables e below (s₁.setTop (mkF m 20 #[.val (.int p1)] [(.int (3 : Int32)), (.int p1)])) _
    refine XS.icmpYes X0.here hx rfl (pc0 := 20) (pc' := 27) rfl (hb hby d2_20) rfl (feq hc20).2 (by decide) (by decide) ?_
    show Steps p.tables e below (s₁.setTop (mkF m 27 #[.val (.int p1)] [])) _
    refine XS.iloadN X0.here hx rfl (hb hby d2_27) rfl ?_
    show Steps p.tables e below (s₁.setTop (mkF m 28 #[.val (.int p1)] [(.int p1)])) _
    refine XS.iconst X0.here hx rfl (hb hby d2_28) ?_
    show Steps p.tables e below (s₁.setTop (mkF m 29 #[.val (.int p1)] [(.int (4 : Int32)), (.int p1)])) _
    refine XS.icmpYes X0.here hx rfl (pc0 := 29) (pc' := 36) rfl (hb hby d2_29) rfl (feq hc29).2 (by decide) (by decide) ?_
    show Steps p.tables e below (s₁.setTop (mkF m 36 #[.val (.int p1)] [])) _
    refine XS.iloadN X0.here hx rfl (hb hby d2_36) rfl ?_
    show Steps p.tables e below (s₁.setTop (mkF m 37 #[.val (.int p1)] [(.int p1)])) _
    refine XS.iconst X0.here hx rfl (hb hby d2_37) ?_
    show Steps p.tables e below (s₁.setTop (mkF m 38 #[.val (.int p1)] [(.int (5 : Int32)), (.int p1)])) _
    refine XS.icmpYes X0.here hx rfl (pc0 := 38) (pc' := 45) rfl (hb hby d2_38) rfl (feq hc38).2 (by decide) (by decide) ?_
    show Steps p.tables e below (s₁.setTop (mkF m 45 #[.val (.int p1)] [])) _
    refine XS.iloadN X0.here hx rfl (hb hby d2_45) rfl ?_
    show Steps p.tables e below (s₁.setTop (mkF m 46 #[.val (.int p1)] [(.int p1)])) _
    refine XS.bipush X0.here hx rfl (hb hby d2_46) ?_
    show Steps p.tables e below (s₁.setTop (mkF m 48 #[.val (.int p1)] [(.int (6 : Int32)), (.int p1)])) _
    refine XS.icmpYes X0.here hx rfl (pc0 := 48) (pc' := 55) rfl (hb hby d2_48) rfl (feq hc48).2 (by decide) (by decide) ?_
    show Steps p.tables e below (s₁.setTop (mkF m 55 #[.val (.int p1)] [])) _
    refine XS.iloadN X0.here hx rfl (hb hby d2_55) rfl ?_
    show Steps p.tables e below (s₁.setTop (mkF m 56 #[.val (.int p1)] [(.int p1)])) _
    refine XS.bipush X0.here hx rfl (hb hby d2_56) ?_
    show Steps p.tables e below (s₁.setTop (mkF m 58 #[.val (.int p1)] [(.int (7 : Int32)), (.int p1)])) _
    refine XS.icmpYes X0.here hx rfl (pc0 := 58) (pc' := 65) rfl (hb hby d2_58) rfl (feq hc58).2 (by decide) (by decide) ?_
    show Steps p.tables e below (s₁.setTop (mkF m 65 #[.val (.int p1)] [])) _
    refine XS.iloadN X0.here hx rfl (hb hby d2_65) rfl ?_
    show Steps p.tables e below (s₁.setTop (mkF m 66 #[.val (.int p1)] [(.int p1)])) _
    refine XS.bipush X0.here hx rfl (hb hby d2_66) ?_
    show Steps p.tables e below (s₁.setTop (mkF m 68 #[.val (.int p1)] [(.int (8 : Int32)), (.int p1)])) _
    refine XS.icmpYes X0.here hx rfl (pc0 := 68) (pc' := 75) rfl (hb hby d2_68) rfl (feq hc68).2 (by decide) (by decide) ?_
    show Steps p.tables e below (s₁.setTop (mkF m 75 #[.val (.int p1)] [])) _
    refine XS.iloadN X0.here hx rfl (hb hby d2_75) rfl ?_
    show Steps p.tables e below (s₁.setTop (mkF m 76 #[.val (.int p1)] [(.int p1)])) _
    refine XS.bipush X0.here hx rfl (hb hby d2_76) ?_
    show Steps p.tables e below (s₁.setTop (mkF m 78 #[.val (.int p1)] [(.int (9 : Int32)), (.int p1)])) _
    refine XS.icmpNo X0.here hx rfl (hb hby d2_78) rfl (teq hc78).2 ?_
    show Steps p.tables e below (s₁.setTop (mkF m 81 #[.val (.int p1)] [])) _
    refine st3 _ ?_
    show Steps p.tables e below (T3.setTop (mkF m 84 #[.val (.int p1)] [(.ref w2)])) _
    jvm_step X3.here [X3.here.top, hx, (hb hby d2_84), X3.method', Bd.returns, Value.isRef, FieldType.isReference]
    first | (intro acts; rw [hr _ acts rfl rfl rfl]) | rw [hr _ _ rfl rfl rfl]
    exact Steps.refl _
  · show Q1 (.ref w2) h0 n0 _ T3.heap _
    rw [e3]
    exact ⟨rfl, N0, rfl⟩


set_option maxRecDepth 65536 in
set_option maxHeartbeats 40000000 in
theorem rm2_9 (l : Launch) (Z : State) (a0 : Array Value) (hw : ∀ d ∈ tables_1, d.before a0 Z = true) (ws : List Jvm.Cond) (p1 : Int32) (w2 : Addr) (h0 : Heap) (n0 : Nat) (Z0 : n0 ≤ h0.size) (S_PING : Sta Z h0 "com/example/ulmus/ulmus/core/wire/OpCode" "PING" "Lcom/example/ulmus/ulmus/core/wire/OpCode;" (.ref w2)) (hc2 : ¬ (p1 = (1 : Int32))) (hc11 : ¬ (p1 = (2 : Int32))) (hc20 : ¬ (p1 = (3 : Int32))) (hc29 : ¬ (p1 = (4 : Int32))) (hc38 : ¬ (p1 = (5 : Int32))) (hc48 : ¬ (p1 = (6 : Int32))) (hc58 : ¬ (p1 = (7 : Int32))) (hc68 : ¬ (p1 = (8 : Int32))) (hc78 : ¬ (p1 = (9 : Int32))) (hc88 : p1 = (11 : Int32)) :
    MetFree l (⟨"com/example/ulmus/ulmus/core/wire/OpCodeOfPinLaw", "expected", "(I)Lcom/example/ulmus/ulmus/core/wire/OpCode;"⟩ : MethodName) (head1 (Jvm.Cond.code (⟨"com/example/ulmus/ulmus/core/wire/OpCodeOfPinLaw", "expected", "(I)Lcom/example/ulmus/ulmus/core/wire/OpCode;"⟩ : MethodName) method_3_code 1 (some (.object "com/example/ulmus/ulmus/core/wire/OpCode")) :: ws) ({ frames := 0, cells := 0, slots := 0, locals := 0 } : Room)) (fun a U => a = #[(.int p1)] ∧ Z.Warmed39 U.vm ∧ U.heap = h0) (fun _ _ _ _ _ => True) (fun _ U o U' => ∃ v L, o = .returned v ∧ Q1 (.ref w2) h0 n0 v U'.heap L ∧ FrameEnd U o U' L ({ frames := 0, cells := 0, slots := 0, locals := 0 } : Room).cells ({ frames := 0, cells := 0, slots := 0, locals := 0 } : Room).slots) := by
  refine MetFree.of_bodySF (plainFor_of_name pn_2) hisR ?_
  intro p e s m args below meth c s₁ Bd hml0 hP hK
  obtain ⟨rfl, hZ, hh⟩ := hP
  have hx := Bd.exec
  have hby := Bd.bytes
  have hml : c.maxLocals = 1 := hml0
  have hown : s.vm.findClass "com/example/ulmus/ulmus/core/wire/OpCodeOfPinLaw" = some m.cls := findClass_of_methodNamed Bd.named
  have hnm := (name_of_methodNamed Bd.named Bd.method).1
  have X0 : Stand p l e ({ frames := 0, cells := 0, slots := 0, locals := 0 } : Room) s m #[(.int p1)] below meth c s₁ [] 0 0 := Stand.of_body Bd
  have e0 : s₁.heap = h0 := by rw [← hh, Bd.state]; rfl
  have N0 := Fr.nil n0
  have pre0 : ∀ t, Steps p.tables e below (s₁.setTop (mkF m 0 #[.val (.int p1)] [])) t → Steps p.tables e below (s₁.setTop (entryFrame m #[(.int p1)] 1)) t := fun t k => castTop (ef_2 m p1) k
  obtain ⟨T3, X3, e3, st3⟩ := getS2 X0 hx hZ hown (host := "") (Or.inl (hw _ (List.mem_of_getElem? (i := 40) rfl))) Via.refl e0 S_PING (g := (mkF m 91 #[.val (.int p1)] [])) rfl (hb hby d2_91)
  obtain ⟨fs, hr, hrun, hended, hW, hsame⟩ := X3.leave (v := some (.ref w2)) (fun h => by rw [Bd.returns] at h; cases h)
  refine ⟨_, _, pre0 _ ?_, hrun, hended, _, _, rfl, ?_, ⟨_, rfl⟩, hW, hsame.mono (by decide) (by decide)⟩
  · show Steps p.tables e below (s₁.setTop (mkF m 0 #[.val (.int p1)] [])) _
    refine XS.iloadN X0.here hx rfl (hb hby d2_0) rfl ?_
    show Steps p.tables e below (s₁.setTop (mkF m 1 #[.val (.int p1)] [(.int p1)])) _
    refine XS.iconst X0.here hx rfl (hb hby d2_1) ?_
    show Steps p.tables e below (s₁.setTop (mkF m 2 #[.val (.int p1)] [(.int (1 : Int32)), (.int p1)])) _
    refine XS.icmpYes X0.here hx rfl (pc0 := 2) (pc' := 9) rfl (hb hby d2_2) rfl (feq hc2).2 (by decide) (by decide) ?_
    show Steps p.tables e below (s₁.setTop (mkF m 9 #[.val (.int p1)] [])) _
    refine XS.iloadN X0.here hx rfl (hb hby d2_9) rfl ?_
    show Steps p.tables e below (s₁.setTop (mkF m 10 #[.val (.int p1)] [(.int p1)])) _
    refine XS.iconst X0.here hx rfl (hb hby d2_10) ?_
    show Steps p.tables e below (s₁.setTop (mkF m 11 #[.val (.int p1)] [(.int (2 : Int32)), (.int p1)])) _
    refine XS.icmpYes X0.here hx rfl (pc0 := 11) (pc' := 18) rfl (hb hby d2_11) rfl (feq hc11).2 (by decide) (by decide) ?_
    show Steps p.tables e below (s₁.setTop (mkF m 18 #[.val (.int p1)] [])) _
    refine XS.iloadN X0.here hx rfl (hb hby d2_18) rfl ?_
    show Steps p.tables e below (s₁.setTop (mkF m 19 #[.val (.int p1)] [(.int p1)])) _
    refine XS.iconst X0.here hx rfl (hb hby d2_19) ?_
    show Steps p.tables e below (s₁.setTop (mkF m 20 #[.val (.int p1)] [(.int (3 : Int32)), (.int p1)])) _
    refine XS.icmpYes X0.here hx rfl (pc0 := 20) (pc' := 27) rfl (hb hby d2_20) rfl (feq hc20).2 (by decide) (by decide) ?_
    show Steps p.tables e below (s₁.setTop (mkF m 27 #[.val (.int p1)] [])) _
    refine XS.iloadN X0.here hx rfl (hb hby d2_27) rfl ?_
    show Steps p.tables e below (s₁.setTop (mkF m 28 #[.val (.int p1)] [(.int p1)])) _
    refine XS.iconst X0.here hx rfl (hb hby d2_28) ?_
    show Steps p.tables e below (s₁.setTop (mkF m 29 #[.val (.int p1)] [(.int (4 : Int32)), (.int p1)])) _
    refine XS.icmpYes X0.here hx rfl (pc0 := 29) (pc' := 36) rfl (hb hby d2_29) rfl (feq hc29).2 (by decide) (by decide) ?_
    show Steps p.tables e below (s₁.setTop (mkF m 36 #[.val (.int p1)] [])) _
    refine XS.iloadN X0.here hx rfl (hb hby d2_36) rfl ?_
    show Steps p.tables e below (s₁.setTop (mkF m 37 #[.val (.int p1)] [(.int p1)])) _
    refine XS.iconst X0.here hx rfl (hb hby d2_37) ?_
    show Steps p.tables e below (s₁.setTop (mkF m 38 #[.val (.int p1)] [(.int (5 : Int32)), (.int p1)])) _
    refine XS.icmpYes X0.here hx rfl (pc0 := 38) (pc' := 45) rfl (hb hby d2_38) rfl (feq hc38).2 (by decide) (by decide) ?_
    show Steps p.tables e below (s₁.setTop (mkF m 45 #[.val (.int p1)] [])) _
    refine XS.iloadN X0.here hx rfl (hb hby d2_45) rfl ?_
    show Steps p.tables e below (s₁.setTop (mkF m 46 #[.val (.int p1)] [(.int p1)])) _
    refine XS.bipush X0.here hx rfl (hb hby d2_46) ?_
    show Steps p.tables e below (s₁.setTop (mkF m 48 #[.val (.int p1)] [(.int (6 : Int32)), (.int p1)])) _
    refine XS.icmpYes X0.here hx rfl (pc0 := 48) (pc' := 55) rfl (hb hby d2_48) rfl (feq hc48).2 (by decide) (by decide) ?_
    show Steps p.tables e below (s₁.setTop (mkF m 55 #[.val (.int p1)] [])) _
    refine XS.iloadN X0.here hx rfl (hb hby d2_55) rfl ?_
    show Steps p.tables e below (s₁.setTop (mkF m 56 #[.val (.int p1)] [(.int p1)])) _
    refine XS.bipush X0.here hx rfl (hb hby d2_56) ?_
    show Steps p.tables e below (s₁.setTop (mkF m 58 #[.val (.int p1)] [(.int (7 : Int32)), (.int p1)])) _
    refine XS.icmpYes X0.here hx rfl (pc0 := 58) (pc' := 65) rfl (hb hby d2_58) rfl (feq hc58).2 (by decide) (by decide) ?_
    show Steps p.tables e below (s₁.setTop (mkF m 65 #[.val (.int p1)] [])) _
    refine XS.iloadN X0.here hx rfl (hb hby d2_65) rfl ?_
    show Steps p.tables e below (s₁.setTop (mkF m 66 #[.val (.int p1)] [(.int p1)])) _
    refine XS.bipush X0.here hx rfl (hb hby d2_66) ?_
    show Steps p.tables e below (s₁.setTop (mkF m 68 #[.val (.int p1)] [(.int (8 : Int32)), (.int p1)])) _
    refine XS.icmpYes X0.here hx rfl (pc0 := 68) (pc' := 75) rfl (hb hby d2_68) rfl (feq hc68).2 (by decide) (by decide) ?_
    show Steps p.tables e below (s₁.setTop (mkF m 75 #[.val (.int p1)] [])) _
    refine XS.iloadN X0.here hx rfl (hb hby d2_75) rfl ?_
    show Steps p.tables e below (s₁.setTop (mkF m 76 #[.val (.int p1)] [(.int p1)])) _
    refine XS.bipush X0.here hx rfl (hb hby d2_76) ?_
    show Steps p.tables e below (s₁.setTop (mkF m 78 #[.val (.int p1)] [(.int (9 : Int32)), (.int p1)])) _
    refine XS.icmpYes X0.here hx rfl (pc0 := 78) (pc' := 85) rfl (hb hby d2_78) rfl (feq hc78).2 (by decide) (by decide) ?_
    show Steps p.tables e below (s₁.setTop (mkF m 85 #[.val (.int p1)] [])) _
    refine XS.iloadN X0.here hx rfl (hb hby d2_85) rfl ?_
    show Steps p.tables e below (s₁.setTop (mkF m 86 #[.val (.int p1)] [(.int p1)])) _
    refine XS.bipush X0.here hx rfl (hb hby d2_86) ?_
    show Steps p.tables e below (s₁.setTop (mkF m 88 #[.val (.int p1)] [(.int (11 : Int32)), (.int p1)])) _
    refine XS.icmpNo X0.here hx rfl (hb hby d2_88) rfl (teq hc88).2 ?_
    show Steps p.tables e below (s₁.setTop (mkF m 91 #[.val (.int p1)] [])) _
    refine st3 _ ?_
    show Steps p.tables e below (T3.setTop (mkF m 94 #[.val (.int p1)] [(.ref w2)])) _
    jvm_step X3.here [X3.here.top, hx, (hb hby d2_94), X3.method', Bd.returns, Value.isRef, FieldType.isReference]
    first | (intro acts; rw [hr _ acts rfl rfl rfl]) | rw [hr _ _ rfl rfl rfl]
    exact Steps.refl _
  · show Q1 (.ref w2) h0 n0 _ T3.heap _
    rw [e3]
    exact ⟨rfl, N0, rfl⟩


set_option maxRecDepth 65536 in
set_option maxHeartbeats 40000000 in
theorem rm2_10 (l : Launch) (Z : State) (a0 : Array Value) (hw : ∀ d ∈ tables_1, d.before a0 Z = true) (ws : List Jvm.Cond) (p1 : Int32) (w2 : Addr) (h0 : Heap) (n0 : Nat) (Z0 : n0 ≤ h0.size) (S_GET_CHILDREN2 : Sta Z h0 "com/example/ulmus/ulmus/core/wire/OpCode" "GET_CHILDREN2" "Lcom/example/ulmus/ulmus/core/wire/OpCode;" (.ref w2)) (hc2 : ¬ (p1 = (1 : Int32))) (hc11 : ¬ (p1 = (2 : Int32))) (hc20 : ¬ (p1 = (3 : Int32))) (hc29 : ¬ (p1 = (4 : Int32))) (hc38 : ¬ (p1 = (5 : Int32))) (hc48 : ¬ (p1 = (6 : Int32))) (hc58 : ¬ (p1 = (7 : Int32))) (hc68 : ¬ (p1 = (8 : Int32))) (hc78 : ¬ (p1 = (9 : Int32))) (hc88 : ¬ (p1 = (11 : Int32))) (hc98 : p1 = (12 : Int32)) :
    MetFree l (⟨"com/example/ulmus/ulmus/core/wire/OpCodeOfPinLaw", "expected", "(I)Lcom/example/ulmus/ulmus/core/wire/OpCode;"⟩ : MethodName) (head1 (Jvm.Cond.code (⟨"com/example/ulmus/ulmus/core/wire/OpCodeOfPinLaw", "expected", "(I)Lcom/example/ulmus/ulmus/core/wire/OpCode;"⟩ : MethodName) method_3_code 1 (some (.object "com/example/ulmus/ulmus/core/wire/OpCode")) :: ws) ({ frames := 0, cells := 0, slots := 0, locals := 0 } : Room)) (fun a U => a = #[(.int p1)] ∧ Z.Warmed39 U.vm ∧ U.heap = h0) (fun _ _ _ _ _ => True) (fun _ U o U' => ∃ v L, o = .returned v ∧ Q1 (.ref w2) h0 n0 v U'.heap L ∧ FrameEnd U o U' L ({ frames := 0, cells := 0, slots := 0, locals := 0 } : Room).cells ({ frames := 0, cells := 0, slots := 0, locals := 0 } : Room).slots) := by
  refine MetFree.of_bodySF (plainFor_of_name pn_2) hisR ?_
  intro p e s m args below meth c s₁ Bd hml0 hP hK
  obtain ⟨rfl, hZ, hh⟩ := hP
  have hx := Bd.exec
  have hby := Bd.bytes
  have hml : c.maxLocals = 1 := hml0
  have hown : s.vm.findClass "com/example/ulmus/ulmus/core/wire/OpCodeOfPinLaw" = some m.cls := findClass_of_methodNamed Bd.named
  have hnm := (name_of_methodNamed Bd.named Bd.method).1
  have X0 : Stand p l e ({ frames := 0, cells := 0, slots := 0, locals := 0 } : Room) s m #[(.int p1)] below meth c s₁ [] 0 0 := Stand.of_body Bd
  have e0 : s₁.heap = h0 := by rw [← hh, Bd.state]; rfl
  have N0 := Fr.nil n0
  have pre0 : ∀ t, Steps p.tables e below (s₁.setTop (mkF m 0 #[.val (.int p1)] [])) t → Steps p.tables e below (s₁.setTop (entryFrame m #[(.int p1)] 1)) t := fun t k => castTop (ef_2 m p1) k
  obtain ⟨T3, X3, e3, st3⟩ := getS2 X0 hx hZ hown (host := "") (Or.inl (hw _ (List.mem_of_getElem? (i := 37) rfl))) Via.refl e0 S_GET_CHILDREN2 (g := (mkF m 101 #[.val (.int p1)] [])) rfl (hb hby d2_101)
  obtain ⟨fs, hr, hrun, hended, hW, hsame⟩ := X3.leave (v := some (.ref w2)) (fun h => by rw [Bd.returns] at h; cases h)
  refine ⟨_, _, pre0 _ ?_, hrun, hended, _, _, rfl, ?_, ⟨_, rfl⟩, hW, hsame.mono (by decide) (by decide)⟩
  · show Steps p.tables e below (s₁.setTop (mkF m 0 #[.val (.int p1)] [])) _
    refine XS.iloadN X0.here hx rfl (hb hby d2_0) rfl ?_
    show Steps p.tables e below (s₁.setTop (mkF m 1 #[.val (.int p1)] [(.int p1)])) _
    refine XS.iconst X0.here hx rfl (hb hby d2_1) ?_
    show Steps p.tables e below (s₁.setTop (mkF m 2 #[.val (.int p1)] [(.int (1 : Int32)), (.int p1)])) _
    refine XS.icmpYes X0.here hx rfl (pc0 := 2) (pc' := 9) rfl (hb hby d2_2) rfl (feq hc2).2 (by decide) (by decide) ?_
    show Steps p.tables e below (s₁.setTop (mkF m 9 #[.val (.int p1)] [])) _
    refine XS.iloadN X0.here hx rfl (hb hby d2_9) rfl ?_
    show Steps p.tables e below (s₁.setTop (mkF m 10 #[.val (.int p1)] [(.int p1)])) _
    refine XS.iconst X0.here hx rfl (hb hby d2_10) ?_
    show Steps p.tables e below (s₁.setTop (mkF m 11 #[.val (.int p1)] [(.int (2 : Int32)), (.int p1)])) _
    refine XS.icmpYes X0.here hx rfl (pc0 := 11) (pc' := 18) rfl (hb hby d2_11) rfl (feq hc11).2 (by decide) (by decide) ?_
    show Steps p.tables e below (s₁.setTop (mkF m 18 #[.val (.int p1)] [])) _
    refine XS.iloadN X0.here hx rfl (hb hby d2_18) rfl ?_
    show Steps p.tables e below (s₁.setTop (mkF m 19 #[.val (.int p1)] [(.int p1)])) _
    refine XS.iconst X0.here hx rfl (hb hby d2_19) ?_
    show Steps p.tables e below (s₁.setTop (mkF m 20 #[.val (.int p1)] [(.int (3 : Int32)), (.int p1)])) _
    refine XS.icmpYes X0.here hx rfl (pc0 := 20) (pc' := 27) rfl (hb hby d2_20) rfl (feq hc20).2 (by decide) (by decide) ?_
    show Steps p.tables e below (s₁.setTop (mkF m 27 #[.val (.int p1)] [])) _
    refine XS.iloadN X0.here hx rfl (hb hby d2_27) rfl ?_
    show Steps p.tables e below (s₁.setTop (mkF m 28 #[.val (.int p1)] [(.int p1)])) _
    refine XS.iconst X0.here hx rfl (hb hby d2_28) ?_
    show Steps p.tables e below (s₁.setTop (mkF m 29 #[.val (.int p1)] [(.int (4 : Int32)), (.int p1)])) _
    refine XS.icmpYes X0.here hx rfl (pc0 := 29) (pc' := 36) rfl (hb hby d2_29) rfl (feq hc29).2 (by decide) (by decide) ?_
    show Steps p.tables e below (s₁.setTop (mkF m 36 #[.val (.int p1)] [])) _
    refine XS.iloadN X0.here hx rfl (hb hby d2_36) rfl ?_
    show Steps p.tables e below (s₁.setTop (mkF m 37 #[.val (.int p1)] [(.int p1)])) _
    refine XS.iconst X0.here hx rfl (hb hby d2_37) ?_
    show Steps p.tables e below (s₁.setTop (mkF m 38 #[.val (.int p1)] [(.int (5 : Int32)), (.int p1)])) _
    refine XS.icmpYes X0.here hx rfl (pc0 := 38) (pc' := 45) rfl (hb hby d2_38) rfl (feq hc38).2 (by decide) (by decide) ?_
    show Steps p.tables e below (s₁.setTop (mkF m 45 #[.val (.int p1)] [])) _
    refine XS.iloadN X0.here hx rfl (hb hby d2_45) rfl ?_
    show Steps p.tables e below (s₁.setTop (mkF m 46 #[.val (.int p1)] [(.int p1)])) _
    refine XS.bipush X0.here hx rfl (hb hby d2_46) ?_
    show Steps p.tables e below (s₁.setTop (mkF m 48 #[.val (.int p1)] [(.int (6 : Int32)), (.int p1)])) _
    refine XS.icmpYes X0.here hx rfl (pc0 := 48) (pc' := 55) rfl (hb hby d2_48) rfl (feq hc48).2 (by decide) (by decide) ?_
    show Steps p.tables e below (s₁.setTop (mkF m 55 #[.val (.int p1)] [])) _
    refine XS.iloadN X0.here hx rfl (hb hby d2_55) rfl ?_
    show Steps p.tables e below (s₁.setTop (mkF m 56 #[.val (.int p1)] [(.int p1)])) _
    refine XS.bipush X0.here hx rfl (hb hby d2_56) ?_
    show Steps p.tables e below (s₁.setTop (mkF m 58 #[.val (.int p1)] [(.int (7 : Int32)), (.int p1)])) _
    refine XS.icmpYes X0.here hx rfl (pc0 := 58) (pc' := 65) rfl (hb hby d2_58) rfl (feq hc58).2 (by decide) (by decide) ?_
    show Steps p.tables e below (s₁.setTop (mkF m 65 #[.val (.int p1)] [])) _
    refine XS.iloadN X0.here hx rfl (hb hby d2_65) rfl ?_
    show Steps p.tables e below (s₁.setTop (mkF m 66 #[.val (.int p1)] [(.int p1)])) _
    refine XS.bipush X0.here hx rfl (hb hby d2_66) ?_
    show Steps p.tables e below (s₁.setTop (mkF m 68 #[.val (.int p1)] [(.int (8 : Int32)), (.int p1)])) _
    refine XS.icmpYes X0.here hx rfl (pc0 := 68) (pc' := 75) rfl (hb hby d2_68) rfl (feq hc68).2 (by decide) (by decide) ?_
    show Steps p.tables e below (s₁.setTop (mkF m 75 #[.val (.int p1)] [])) _
    refine XS.iloadN X0.here hx rfl (hb hby d2_75) rfl ?_
    show Steps p.tables e below (s₁.setTop (mkF m 76 #[.val (.int p1)] [(.int p1)])) _
    refine XS.bipush X0.here hx rfl (hb hby d2_76) ?_
    show Steps p.tables e below (s₁.setTop (mkF m 78 #[.val (.int p1)] [(.int (9 : Int32)), (.int p1)])) _
    refine XS.icmpYes X0.here hx rfl (pc0 := 78) (pc' := 85) rfl (hb hby d2_78) rfl (feq hc78).2 (by decide) (by decide) ?_
    show Steps p.tables e below (s₁.setTop (mkF m 85 #[.val (.int p1)] [])) _
    refine XS.iloadN X0.here hx rfl (hb hby d2_85) rfl ?_
    show Steps p.tables e below (s₁.setTop (mkF m 86 #[.val (.int p1)] [(.int p1)])) _
    refine XS.bipush X0.here hx rfl (hb hby d2_86) ?_
    show Steps p.tables e below (s₁.setTop (mkF m 88 #[.val (.int p1)] [(.int (11 : Int32)), (.int p1)])) _
    refine XS.icmpYes X0.here hx rfl (pc0 := 88) (pc' := 95) rfl (hb hby d2_88) rfl (feq hc88).2 (by decide) (by decide) ?_
    show Steps p.tables e below (s₁.setTop (mkF m 95 #[.val (.int p1)] [])) _
    refine XS.iloadN X0.here hx rfl (hb hby d2_95) rfl ?_
    show Steps p.tables e below (s₁.setTop (mkF m 96 #[.val (.int p1)] [(.int p1)])) _
    refine XS.bipush X0.here hx rfl (hb hby d2_96) ?_
    show Steps p.tables e below (s₁.setTop (mkF m 98 #[.val (.int p1)] [(.int (12 : Int32)), (.int p1)])) _
    refine XS.icmpNo X0.here hx rfl (hb hby d2_98) rfl (teq hc98).2 ?_
    show Steps p.tables e below (s₁.setTop (mkF m 101 #[.val (.int p1)] [])) _
    refine st3 _ ?_
    show Steps p.tables e below (T3.setTop (mkF m 104 #[.val (.int p1)] [(.ref w2)])) _
    jvm_step X3.here [X3.here.top, hx, (hb hby d2_104), X3.method', Bd.returns, Value.isRef, FieldType.isReference]
    first | (intro acts; rw [hr _ acts rfl rfl rfl]) | rw [hr _ _ rfl rfl rfl]
    exact Steps.refl _
  · show Q1 (.ref w2) h0 n0 _ T3.heap _
    rw [e3]
    exact ⟨rfl, N0, rfl⟩


set_option maxRecDepth 65536 in
set_option maxHeartbeats 40000000 in
theorem rm2_11 (l : Launch) (Z : State) (a0 : Array Value) (hw : ∀ d ∈ tables_1, d.before a0 Z = true) (ws : List Jvm.Cond) (p1 : Int32) (w2 : Addr) (h0 : Heap) (n0 : Nat) (Z0 : n0 ≤ h0.size) (S_CHECK : Sta Z h0 "com/example/ulmus/ulmus/core/wire/OpCode" "CHECK" "Lcom/example/ulmus/ulmus/core/wire/OpCode;" (.ref w2)) (hc2 : ¬ (p1 = (1 : Int32))) (hc11 : ¬ (p1 = (2 : Int32))) (hc20 : ¬ (p1 = (3 : Int32))) (hc29 : ¬ (p1 = (4 : Int32))) (hc38 : ¬ (p1 = (5 : Int32))) (hc48 : ¬ (p1 = (6 : Int32))) (hc58 : ¬ (p1 = (7 : Int32))) (hc68 : ¬ (p1 = (8 : Int32))) (hc78 : ¬ (p1 = (9 : Int32))) (hc88 : ¬ (p1 = (11 : Int32))) (hc98 : ¬ (p1 = (12 : Int32))) (hc108 : p1 = (13 : Int32)) :
    MetFree l (⟨"com/example/ulmus/ulmus/core/wire/OpCodeOfPinLaw", "expected", "(I)Lcom/example/ulmus/ulmus/core/wire/OpCode;"⟩ : MethodName) (head1 (Jvm.Cond.code (⟨"com/example/ulmus/ulmus/core/wire/OpCodeOfPinLaw", "expected", "(I)Lcom/example/ulmus/ulmus/core/wire/OpCode;"⟩ : MethodName) method_3_code 1 (some (.object "com/example/ulmus/ulmus/core/wire/OpCode")) :: ws) ({ frames := 0, cells := 0, slots := 0, locals := 0 } : Room)) (fun a U => a = #[(.int p1)] ∧ Z.Warmed39 U.vm ∧ U.heap = h0) (fun _ _ _ _ _ => True) (fun _ U o U' => ∃ v L, o = .returned v ∧ Q1 (.ref w2) h0 n0 v U'.heap L ∧ FrameEnd U o U' L ({ frames := 0, cells := 0, slots := 0, locals := 0 } : Room).cells ({ frames := 0, cells := 0, slots := 0, locals := 0 } : Room).slots) := by
  refine MetFree.of_bodySF (plainFor_of_name pn_2) hisR ?_
  intro p e s m args below meth c s₁ Bd hml0 hP hK
  obtain ⟨rfl, hZ, hh⟩ := hP
  have hx := Bd.exec
  have hby := Bd.bytes
  have hml : c.maxLocals = 1 := hml0
  have hown : s.vm.findClass "com/example/ulmus/ulmus/core/wire/OpCodeOfPinLaw" = some m.cls := findClass_of_methodNamed Bd.named
  have hnm := (name_of_methodNamed Bd.named Bd.method).1
  have X0 : Stand p l e ({ frames := 0, cells := 0, slots := 0, locals := 0 } : Room) s m #[(.int p1)] below meth c s₁ [] 0 0 := Stand.of_body Bd
  have e0 : s₁.heap = h0 := by rw [← hh, Bd.state]; rfl
  have N0 := Fr.nil n0
  have pre0 : ∀ t, Steps p.tables e below (s₁.setTop (mkF m 0 #[.val (.int p1)] [])) t → Steps p.tables e below (s₁.setTop (entryFrame m #[(.int p1)] 1)) t := fun t k => castTop (ef_2 m p1) k
  obtain ⟨T3, X3, e3, st3⟩ := getS2 X0 hx hZ hown (host := "") (Or.inl (hw _ (List.mem_of_getElem? (i := 44) rfl))) Via.refl e0 S_CHECK (g := (mkF m 111 #[.val (.int p1)] [])) rfl (hb hby d2_111)
  obtain ⟨fs, hr, hrun, hended, hW, hsame⟩ := X3.leave (v := some (.ref w2)) (fun h => by rw [Bd.returns] at h; cases h)
  refine ⟨_, _, pre0 _ ?_, hrun, hended, _, _, rfl, ?_, ⟨_, rfl⟩, hW, hsame.mono (by decide) (by decide)⟩
  · show Steps p.tables e below (s₁.setTop (mkF m 0 #[.val (.int p1)] [])) _
    refine XS.iloadN X0.here hx rfl (hb hby d2_0) rfl ?_
    show Steps p.tables e below (s₁.setTop (mkF m 1 #[.val (.int p1)] [(.int p1)])) _
    refine XS.iconst X0.here hx rfl (hb hby d2_1) ?_
    show Steps p.tables e below (s₁.setTop (mkF m 2 #[.val (.int p1)] [(.int (1 : Int32)), (.int p1)])) _
    refine XS.icmpYes X0.here hx rfl (pc0 := 2) (pc' := 9) rfl (hb hby d2_2) rfl (feq hc2).2 (by decide) (by decide) ?_
    show Steps p.tables e below (s₁.setTop (mkF m 9 #[.val (.int p1)] [])) _
    refine XS.iloadN X0.here hx rfl (hb hby d2_9) rfl ?_
    show Steps p.tables e below (s₁.setTop (mkF m 10 #[.val (.int p1)] [(.int p1)])) _
    refine XS.iconst X0.here hx rfl (hb hby d2_10) ?_
    show Steps p.tables e below (s₁.setTop (mkF m 11 #[.val (.int p1)] [(.int (2 : Int32)), (.int p1)])) _
    refine XS.icmpYes X0.here hx rfl (pc0 := 11) (pc' := 18) rfl (hb hby d2_11) rfl (feq hc11).2 (by decide) (by decide) ?_
    show Steps p.tables e below (s₁.setTop (mkF m 18 #[.val (.int p1)] [])) _
    refine XS.iloadN X0.here hx rfl (hb hby d2_18) rfl ?_
    show Steps p.tables e below (s₁.setTop (mkF m 19 #[.val (.int p1)] [(.int p1)])) _
    refine XS.iconst X0.here hx rfl (hb hby d2_19) ?_
    show Steps p.tables e below (s₁.setTop (mkF m 20 #[.val (.int p1)] [(.int (3 : Int32)), (.int p1)])) _
    refine XS.icmpYes X0.here hx rfl (pc0 := 20) (pc' := 27) rfl (hb hby d2_20) rfl (feq hc20).2 (by decide) (by decide) ?_
    show Steps p.tables e below (s₁.setTop (mkF m 27 #[.val (.int p1)] [])) _
    refine XS.iloadN X0.here hx rfl (hb hby d2_27) rfl ?_
    show Steps p.tables e below (s₁.setTop (mkF m 28 #[.val (.int p1)] [(.int p1)])) _
    refine XS.iconst X0.here hx rfl (hb hby d2_28) ?_
    show Steps p.tables e below (s₁.setTop (mkF m 29 #[.val (.int p1)] [(.int (4 : Int32)), (.int p1)])) _
    refine XS.icmpYes X0.here hx rfl (pc0 := 29) (pc' := 36) rfl (hb hby d2_29) rfl (feq hc29).2 (by decide) (by decide) ?_
    show Steps p.tables e below (s₁.setTop (mkF m 36 #[.val (.int p1)] [])) _
    refine XS.iloadN X0.here hx rfl (hb hby d2_36) rfl ?_
    show Steps p.tables e below (s₁.setTop (mkF m 37 #[.val (.int p1)] [(.int p1)])) _
    refine XS.iconst X0.here hx rfl (hb hby d2_37) ?_
    show Steps p.tables e below (s₁.setTop (mkF m 38 #[.val (.int p1)] [(.int (5 : Int32)), (.int p1)])) _
    refine XS.icmpYes X0.here hx rfl (pc0 := 38) (pc' := 45) rfl (hb hby d2_38) rfl (feq hc38).2 (by decide) (by decide) ?_
    show Steps p.tables e below (s₁.setTop (mkF m 45 #[.val (.int p1)] [])) _
    refine XS.iloadN X0.here hx rfl (hb hby d2_45) rfl ?_
    show Steps p.tables e below (s₁.setTop (mkF m 46 #[.val (.int p1)] [(.int p1)])) _
    refine XS.bipush X0.here hx rfl (hb hby d2_46) ?_
    show Steps p.tables e below (s₁.setTop (mkF m 48 #[.val (.int p1)] [(.int (6 : Int32)), (.int p1)])) _
    refine XS.icmpYes X0.here hx rfl (pc0 := 48) (pc' := 55) rfl (hb hby d2_48) rfl (feq hc48).2 (by decide) (by decide) ?_
    show Steps p.tables e below (s₁.setTop (mkF m 55 #[.val (.int p1)] [])) _
    refine XS.iloadN X0.here hx rfl (hb hby d2_55) rfl ?_
    show Steps p.tables e below (s₁.setTop (mkF m 56 #[.val (.int p1)] [(.int p1)])) _
    refine XS.bipush X0.here hx rfl (hb hby d2_56) ?_
    show Steps p.tables e below (s₁.setTop (mkF m 58 #[.val (.int p1)] [(.int (7 : Int32)), (.int p1)])) _
    refine XS.icmpYes X0.here hx rfl (pc0 := 58) (pc' := 65) rfl (hb hby d2_58) rfl (feq hc58).2 (by decide) (by decide) ?_
    show Steps p.tables e below (s₁.setTop (mkF m 65 #[.val (.int p1)] [])) _
    refine XS.iloadN X0.here hx rfl (hb hby d2_65) rfl ?_
    show Steps p.tables e below (s₁.setTop (mkF m 66 #[.val (.int p1)] [(.int p1)])) _
    refine XS.bipush X0.here hx rfl (hb hby d2_66) ?_
    show Steps p.tables e below (s₁.setTop (mkF m 68 #[.val (.int p1)] [(.int (8 : Int32)), (.int p1)])) _
    refine XS.icmpYes X0.here hx rfl (pc0 := 68) (pc' := 75) rfl (hb hby d2_68) rfl (feq hc68).2 (by decide) (by decide) ?_
    show Steps p.tables e below (s₁.setTop (mkF m 75 #[.val (.int p1)] [])) _
    refine XS.iloadN X0.here hx rfl (hb hby d2_75) rfl ?_
    show Steps p.tables e below (s₁.setTop (mkF m 76 #[.val (.int p1)] [(.int p1)])) _
    refine XS.bipush X0.here hx rfl (hb hby d2_76) ?_
    show Steps p.tables e below (s₁.setTop (mkF m 78 #[.val (.int p1)] [(.int (9 : Int32)), (.int p1)])) _
    refine XS.icmpYes X0.here hx rfl (pc0 := 78) (pc' := 85) rfl (hb hby d2_78) rfl (feq hc78).2 (by decide) (by decide) ?_
    show Steps p.tables e below (s₁.setTop (mkF m 85 #[.val (.int p1)] [])) _
    refine XS.iloadN X0.here hx rfl (hb hby d2_85) rfl ?_
    show Steps p.tables e below (s₁.setTop (mkF m 86 #[.val (.int p1)] [(.int p1)])) _
    refine XS.bipush X0.here hx rfl (hb hby d2_86) ?_
    show Steps p.tables e below (s₁.setTop (mkF m 88 #[.val (.int p1)] [(.int (11 : Int32)), (.int p1)])) _
    refine XS.icmpYes X0.here hx rfl (pc0 := 88) (pc' := 95) rfl (hb hby d2_88) rfl (feq hc88).2 (by decide) (by decide) ?_
    show Steps p.tables e below (s₁.setTop (mkF m 95 #[.val (.int p1)] [])) _
    refine XS.iloadN X0.here hx rfl (hb hby d2_95) rfl ?_
    show Steps p.tables e below (s₁.setTop (mkF m 96 #[.val (.int p1)] [(.int p1)])) _
    refine XS.bipush X0.here hx rfl (hb hby d2_96) ?_
    show Steps p.tables e below (s₁.setTop (mkF m 98 #[.val (.int p1)] [(.int (12 : Int32)), (.int p1)])) _
    refine XS.icmpYes X0.here hx rfl (pc0 := 98) (pc' := 105) rfl (hb hby d2_98) rfl (feq hc98).2 (by decide) (by decide) ?_
    show Steps p.tables e below (s₁.setTop (mkF m 105 #[.val (.int p1)] [])) _
    refine XS.iloadN X0.here hx rfl (hb hby d2_105) rfl ?_
    show Steps p.tables e below (s₁.setTop (mkF m 106 #[.val (.int p1)] [(.int p1)])) _
    refine XS.bipush X0.here hx rfl (hb hby d2_106) ?_
    show Steps p.tables e below (s₁.setTop (mkF m 108 #[.val (.int p1)] [(.int (13 : Int32)), (.int p1)])) _
    refine XS.icmpNo X0.here hx rfl (hb hby d2_108) rfl (teq hc108).2 ?_
    show Steps p.tables e below (s₁.setTop (mkF m 111 #[.val (.int p1)] [])) _
    refine st3 _ ?_
    show Steps p.tables e below (T3.setTop (mkF m 114 #[.val (.int p1)] [(.ref w2)])) _
    jvm_step X3.here [X3.here.top, hx, (hb hby d2_114), X3.method', Bd.returns, Value.isRef, FieldType.isReference]
    first | (intro acts; rw [hr _ acts rfl rfl rfl]) | rw [hr _ _ rfl rfl rfl]
    exact Steps.refl _
  · show Q1 (.ref w2) h0 n0 _ T3.heap _
    rw [e3]
    exact ⟨rfl, N0, rfl⟩


set_option maxRecDepth 65536 in
set_option maxHeartbeats 40000000 in
theorem rm2_12 (l : Launch) (Z : State) (a0 : Array Value) (hw : ∀ d ∈ tables_1, d.before a0 Z = true) (ws : List Jvm.Cond) (p1 : Int32) (w2 : Addr) (h0 : Heap) (n0 : Nat) (Z0 : n0 ≤ h0.size) (S_MULTI : Sta Z h0 "com/example/ulmus/ulmus/core/wire/OpCode" "MULTI" "Lcom/example/ulmus/ulmus/core/wire/OpCode;" (.ref w2)) (hc2 : ¬ (p1 = (1 : Int32))) (hc11 : ¬ (p1 = (2 : Int32))) (hc20 : ¬ (p1 = (3 : Int32))) (hc29 : ¬ (p1 = (4 : Int32))) (hc38 : ¬ (p1 = (5 : Int32))) (hc48 : ¬ (p1 = (6 : Int32))) (hc58 : ¬ (p1 = (7 : Int32))) (hc68 : ¬ (p1 = (8 : Int32))) (hc78 : ¬ (p1 = (9 : Int32))) (hc88 : ¬ (p1 = (11 : Int32))) (hc98 : ¬ (p1 = (12 : Int32))) (hc108 : ¬ (p1 = (13 : Int32))) (hc118 : p1 = (14 : Int32)) :
    MetFree l (⟨"com/example/ulmus/ulmus/core/wire/OpCodeOfPinLaw", "expected", "(I)Lcom/example/ulmus/ulmus/core/wire/OpCode;"⟩ : MethodName) (head1 (Jvm.Cond.code (⟨"com/example/ulmus/ulmus/core/wire/OpCodeOfPinLaw", "expected", "(I)Lcom/example/ulmus/ulmus/core/wire/OpCode;"⟩ : MethodName) method_3_code 1 (some (.object "com/example/ulmus/ulmus/core/wire/OpCode")) :: ws) ({ frames := 0, cells := 0, slots := 0, locals := 0 } : Room)) (fun a U => a = #[(.int p1)] ∧ Z.Warmed39 U.vm ∧ U.heap = h0) (fun _ _ _ _ _ => True) (fun _ U o U' => ∃ v L, o = .returned v ∧ Q1 (.ref w2) h0 n0 v U'.heap L ∧ FrameEnd U o U' L ({ frames := 0, cells := 0, slots := 0, locals := 0 } : Room).cells ({ frames := 0, cells := 0, slots := 0, locals := 0 } : Room).slots) := by
  refine MetFree.of_bodySF (plainFor_of_name pn_2) hisR ?_
  intro p e s m args below meth c s₁ Bd hml0 hP hK
  obtain ⟨rfl, hZ, hh⟩ := hP
  have hx := Bd.exec
  have hby := Bd.bytes
  have hml : c.maxLocals = 1 := hml0
  have hown : s.vm.findClass "com/example/ulmus/ulmus/core/wire/OpCodeOfPinLaw" = some m.cls := findClass_of_methodNamed Bd.named
  have hnm := (name_of_methodNamed Bd.named Bd.method).1
  have X0 : Stand p l e ({ frames := 0, cells := 0, slots := 0, locals := 0 } : Room) s m #[(.int p1)] below meth c s₁ [] 0 0 := Stand.of_body Bd
  have e0 : s₁.heap = h0 := by rw [← hh, Bd.state]; rfl
  have N0 := Fr.nil n0
  have pre0 : ∀ t, Steps p.tables e below (s₁.setTop (mkF m 0 #[.val (.int p1)] [])) t → Steps p.tables e below (s₁.setTop (entryFrame m #[(.int p1)] 1)) t := fun t k => castTop (ef_2 m p1) k
  obtain ⟨T3, X3, e3, st3⟩ := getS2 X0 hx hZ hown (host := "") (Or.inl (hw _ (List.mem_of_getElem? (i := 42) rfl))) Via.refl e0 S_MULTI (g := (mkF m 121 #[.val (.int p1)] [])) rfl (hb hby d2_121)
  obtain ⟨fs, hr, hrun, hended, hW, hsame⟩ := X3.leave (v := some (.ref w2)) (fun h => by rw [Bd.returns] at h; cases h)
  refine ⟨_, _, pre0 _ ?_, hrun, hended, _, _, rfl, ?_, ⟨_, rfl⟩, hW, hsame.mono (by decide) (by decide)⟩
  · show Steps p.tables e below (s₁.setTop (mkF m 0 #[.val (.int p1)] [])) _
    refine XS.iloadN X0.here hx rfl (hb hby d2_0) rfl ?_
    show Steps p.tables e below (s₁.setTop (mkF m 1 #[.val (.int p1)] [(.int p1)])) _
    refine XS.iconst X0.here hx rfl (hb hby d2_1) ?_
    show Steps p.tables e below (s₁.setTop (mkF m 2 #[.val (.int p1)] [(.int (1 : Int32)), (.int p1)])) _
    refine XS.icmpYes X0.here hx rfl (pc0 := 2) (pc' := 9) rfl (hb hby d2_2) rfl (feq hc2).2 (by decide) (by decide) ?_
    show Steps p.tables e below (s₁.setTop (mkF m 9 #[.val (.int p1)] [])) _
    refine XS.iloadN X0.here hx rfl (hb hby d2_9) rfl ?_
    show Steps p.tables e below (s₁.setTop (mkF m 10 #[.val (.int p1)] [(.int p1)])) _
    refine XS.iconst X0.here hx rfl (hb hby d2_10) ?_
    show Steps p.tables e below (s₁.setTop (mkF m 11 #[.val (.int p1)] [(.int (2 : Int32)), (.int p1)])) _
    refine XS.icmpYes X0.here hx rfl (pc0 := 11) (pc' := 18) rfl (hb hby d2_11) rfl (feq hc11).2 (by decide) (by decide) ?_
    show Steps p.tables e below (s₁.setTop (mkF m 18 #[.val (.int p1)] [])) _
    refine XS.iloadN X0.here hx rfl (hb hby d2_18) rfl ?_
    show Steps p.tables e below (s₁.setTop (mkF m 19 #[.val (.int p1)] [(.int p1)])) _
    refine XS.iconst X0.here hx rfl (hb hby d2_19) ?_
    show Steps p.tables e below (s₁.setTop (mkF m 20 #[.val (.int p1)] [(.int (3 : Int32)), (.int p1)])) _
    refine XS.icmpYes X0.here hx rfl (pc0 := 20) (pc' := 27) rfl (hb hby d2_20) rfl (feq hc20).2 (by decide) (by decide) ?_
    show Steps p.tables e below (s₁.setTop (mkF m 27 #[.val (.int p1)] [])) _
    refine XS.iloadN X0.here hx rfl (hb hby d2_27) rfl ?_
    show Steps p.tables e below (s₁.setTop (mkF m 28 #[.val (.int p1)] [(.int p1)])) _
    refine XS.iconst X0.here hx rfl (hb hby d2_28) ?_
    show Steps p.tables e below (s₁.setTop (mkF m 29 #[.val (.int p1)] [(.int (4 : Int32)), (.int p1)])) _
    refine XS.icmpYes X0.here hx rfl (pc0 := 29) (pc' := 36) rfl (hb hby d2_29) rfl (feq hc29).2 (by decide) (by decide) ?_
    show Steps p.tables e below (s₁.setTop (mkF m 36 #[.val (.int p1)] [])) _
    refine XS.iloadN X0.here hx rfl (hb hby d2_36) rfl ?_
    show Steps p.tables e below (s₁.setTop (mkF m 37 #[.val (.int p1)] [(.int p1)])) _
    refine XS.iconst X0.here hx rfl (hb hby d2_37) ?_
    show Steps p.tables e below (s₁.setTop (mkF m 38 #[.val (.int p1)] [(.int (5 : Int32)), (.int p1)])) _
    refine XS.icmpYes X0.here hx rfl (pc0 := 38) (pc' := 45) rfl (hb hby d2_38) rfl (feq hc38).2 (by decide) (by decide) ?_
    show Steps p.tables e below (s₁.setTop (mkF m 45 #[.val (.int p1)] [])) _
    refine XS.iloadN X0.here hx rfl (hb hby d2_45) rfl ?_
    show Steps p.tables e below (s₁.setTop (mkF m 46 #[.val (.int p1)] [(.int p1)])) _
    refine XS.bipush X0.here hx rfl (hb hby d2_46) ?_
    show Steps p.tables e below (s₁.setTop (mkF m 48 #[.val (.int p1)] [(.int (6 : Int32)), (.int p1)])) _
    refine XS.icmpYes X0.here hx rfl (pc0 := 48) (pc' := 55) rfl (hb hby d2_48) rfl (feq hc48).2 (by decide) (by decide) ?_
    show Steps p.tables e below (s₁.setTop (mkF m 55 #[.val (.int p1)] [])) _
    refine XS.iloadN X0.here hx rfl (hb hby d2_55) rfl ?_
    show Steps p.tables e below (s₁.setTop (mkF m 56 #[.val (.int p1)] [(.int p1)])) _
    refine XS.bipush X0.here hx rfl (hb hby d2_56) ?_
    show Steps p.tables e below (s₁.setTop (mkF m 58 #[.val (.int p1)] [(.int (7 : Int32)), (.int p1)])) _
    refine XS.icmpYes X0.here hx rfl (pc0 := 58) (pc' := 65) rfl (hb hby d2_58) rfl (feq hc58).2 (by decide) (by decide) ?_
    show Steps p.tables e below (s₁.setTop (mkF m 65 #[.val (.int p1)] [])) _
    refine XS.iloadN X0.here hx rfl (hb hby d2_65) rfl ?_
    show Steps p.tables e below (s₁.setTop (mkF m 66 #[.val (.int p1)] [(.int p1)])) _
    refine XS.bipush X0.here hx rfl (hb hby d2_66) ?_
    show Steps p.tables e below (s₁.setTop (mkF m 68 #[.val (.int p1)] [(.int (8 : Int32)), (.int p1)])) _
    refine XS.icmpYes X0.here hx rfl (pc0 := 68) (pc' := 75) rfl (hb hby d2_68) rfl (feq hc68).2 (by decide) (by decide) ?_
    show Steps p.tables e below (s₁.setTop (mkF m 75 #[.val (.int p1)] [])) _
    refine XS.iloadN X0.here hx rfl (hb hby d2_75) rfl ?_
    show Steps p.tables e below (s₁.setTop (mkF m 76 #[.val (.int p1)] [(.int p1)])) _
    refine XS.bipush X0.here hx rfl (hb hby d2_76) ?_
    show Steps p.tables e below (s₁.setTop (mkF m 78 #[.val (.int p1)] [(.int (9 : Int32)), (.int p1)])) _
    refine XS.icmpYes X0.here hx rfl (pc0 := 78) (pc' := 85) rfl (hb hby d2_78) rfl (feq hc78).2 (by decide) (by decide) ?_
    show Steps p.tables e below (s₁.setTop (mkF m 85 #[.val (.int p1)] [])) _
    refine XS.iloadN X0.here hx rfl (hb hby d2_85) rfl ?_
    show Steps p.tables e below (s₁.setTop (mkF m 86 #[.val (.int p1)] [(.int p1)])) _
    refine XS.bipush X0.here hx rfl (hb hby d2_86) ?_
    show Steps p.tables e below (s₁.setTop (mkF m 88 #[.val (.int p1)] [(.int (11 : Int32)), (.int p1)])) _
    refine XS.icmpYes X0.here hx rfl (pc0 := 88) (pc' := 95) rfl (hb hby d2_88) rfl (feq hc88).2 (by decide) (by decide) ?_
    show Steps p.tables e below (s₁.setTop (mkF m 95 #[.val (.int p1)] [])) _
    refine XS.iloadN X0.here hx rfl (hb hby d2_95) rfl ?_
    show Steps p.tables e below (s₁.setTop (mkF m 96 #[.val (.int p1)] [(.int p1)])) _
    refine XS.bipush X0.here hx rfl (hb hby d2_96) ?_
    show Steps p.tables e below (s₁.setTop (mkF m 98 #[.val (.int p1)] [(.int (12 : Int32)), (.int p1)])) _
    refine XS.icmpYes X0.here hx rfl (pc0 := 98) (pc' := 105) rfl (hb hby d2_98) rfl (feq hc98).2 (by decide) (by decide) ?_
    show Steps p.tables e below (s₁.setTop (mkF m 105 #[.val (.int p1)] [])) _
    refine XS.iloadN X0.here hx rfl (hb hby d2_105) rfl ?_
    show Steps p.tables e below (s₁.setTop (mkF m 106 #[.val (.int p1)] [(.int p1)])) _
    refine XS.bipush X0.here hx rfl (hb hby d2_106) ?_
    show Steps p.tables e below (s₁.setTop (mkF m 108 #[.val (.int p1)] [(.int (13 : Int32)), (.int p1)])) _
    refine XS.icmpYes X0.here hx rfl (pc0 := 108) (pc' := 115) rfl (hb hby d2_108) rfl (feq hc108).2 (by decide) (by decide) ?_
    show Steps p.tables e below (s₁.setTop (mkF m 115 #[.val (.int p1)] [])) _
    refine XS.iloadN X0.here hx rfl (hb hby d2_115) rfl ?_
    show Steps p.tables e below (s₁.setTop (mkF m 116 #[.val (.int p1)] [(.int p1)])) _
    refine XS.bipush X0.here hx rfl (hb hby d2_116) ?_
    show Steps p.tables e below (s₁.setTop (mkF m 118 #[.val (.int p1)] [(.int (14 : Int32)), (.int p1)])) _
    refine XS.icmpNo X0.here hx rfl (hb hby d2_118) rfl (teq hc118).2 ?_
    show Steps p.tables e below (s₁.setTop (mkF m 121 #[.val (.int p1)] [])) _
    refine st3 _ ?_
    show Steps p.tables e below (T3.setTop (mkF m 124 #[.val (.int p1)] [(.ref w2)])) _
    jvm_step X3.here [X3.here.top, hx, (hb hby d2_124), X3.method', Bd.returns, Value.isRef, FieldType.isReference]
    first | (intro acts; rw [hr _ acts rfl rfl rfl]) | rw [hr _ _ rfl rfl rfl]
    exact Steps.refl _
  · show Q1 (.ref w2) h0 n0 _ T3.heap _
    rw [e3]
    exact ⟨rfl, N0, rfl⟩


set_option maxRecDepth 65536 in
set_option maxHeartbeats 40000000 in
theorem rm2_13 (l : Launch) (Z : State) (a0 : Array Value) (hw : ∀ d ∈ tables_1, d.before a0 Z = true) (ws : List Jvm.Cond) (p1 : Int32) (w2 : Addr) (h0 : Heap) (n0 : Nat) (Z0 : n0 ≤ h0.size) (S_CREATE2 : Sta Z h0 "com/example/ulmus/ulmus/core/wire/OpCode" "CREATE2" "Lcom/example/ulmus/ulmus/core/wire/OpCode;" (.ref w2)) (hc2 : ¬ (p1 = (1 : Int32))) (hc11 : ¬ (p1 = (2 : Int32))) (hc20 : ¬ (p1 = (3 : Int32))) (hc29 : ¬ (p1 = (4 : Int32))) (hc38 : ¬ (p1 = (5 : Int32))) (hc48 : ¬ (p1 = (6 : Int32))) (hc58 : ¬ (p1 = (7 : Int32))) (hc68 : ¬ (p1 = (8 : Int32))) (hc78 : ¬ (p1 = (9 : Int32))) (hc88 : ¬ (p1 = (11 : Int32))) (hc98 : ¬ (p1 = (12 : Int32))) (hc108 : ¬ (p1 = (13 : Int32))) (hc118 : ¬ (p1 = (14 : Int32))) (hc128 : p1 = (15 : Int32)) :
    MetFree l (⟨"com/example/ulmus/ulmus/core/wire/OpCodeOfPinLaw", "expected", "(I)Lcom/example/ulmus/ulmus/core/wire/OpCode;"⟩ : MethodName) (head1 (Jvm.Cond.code (⟨"com/example/ulmus/ulmus/core/wire/OpCodeOfPinLaw", "expected", "(I)Lcom/example/ulmus/ulmus/core/wire/OpCode;"⟩ : MethodName) method_3_code 1 (some (.object "com/example/ulmus/ulmus/core/wire/OpCode")) :: ws) ({ frames := 0, cells := 0, slots := 0, locals := 0 } : Room)) (fun a U => a = #[(.int p1)] ∧ Z.Warmed39 U.vm ∧ U.heap = h0) (fun _ _ _ _ _ => True) (fun _ U o U' => ∃ v L, o = .returned v ∧ Q1 (.ref w2) h0 n0 v U'.heap L ∧ FrameEnd U o U' L ({ frames := 0, cells := 0, slots := 0, locals := 0 } : Room).cells ({ frames := 0, cells := 0, slots := 0, locals := 0 } : Room).slots) := by
  refine MetFree.of_bodySF (plainFor_of_name pn_2) hisR ?_
  intro p e s m args below meth c s₁ Bd hml0 hP hK
  obtain ⟨rfl, hZ, hh⟩ := hP
  have hx := Bd.exec
  have hby := Bd.bytes
  have hml : c.maxLocals = 1 := hml0
  have hown : s.vm.findClass "com/example/ulmus/ulmus/core/wire/OpCodeOfPinLaw" = some m.cls := findClass_of_methodNamed Bd.named
  have hnm := (name_of_methodNamed Bd.named Bd.method).1
  have X0 : Stand p l e ({ frames := 0, cells := 0, slots := 0, locals := 0 } : Room) s m #[(.int p1)] below meth c s₁ [] 0 0 := Stand.of_body Bd
  have e0 : s₁.heap = h0 := by rw [← hh, Bd.state]; rfl
  have N0 := Fr.nil n0
  have pre0 : ∀ t, Steps p.tables e below (s₁.setTop (mkF m 0 #[.val (.int p1)] [])) t → Steps p.tables e below (s₁.setTop (entryFrame m #[(.int p1)] 1)) t := fun t k => castTop (ef_2 m p1) k
  obtain ⟨T3, X3, e3, st3⟩ := getS2 X0 hx hZ hown (host := "") (Or.inl (hw _ (List.mem_of_getElem? (i := 33) rfl))) Via.refl e0 S_CREATE2 (g := (mkF m 131 #[.val (.int p1)] [])) rfl (hb hby d2_131)
  obtain ⟨fs, hr, hrun, hended, hW, hsame⟩ := X3.leave (v := some (.ref w2)) (fun h => by rw [Bd.returns] at h; cases h)
  refine ⟨_, _, pre0 _ ?_, hrun, hended, _, _, rfl, ?_, ⟨_, rfl⟩, hW, hsame.mono (by decide) (by decide)⟩
  · show Steps p.tables e below (s₁.setTop (mkF m 0 #[.val (.int p1)] [])) _
    refine XS.iloadN X0.here hx rfl (hb hby d2_0) rfl ?_
    show Steps p.tables e below (s₁.setTop (mkF m 1 #[.val (.int p1)] [(.int p1)])) _
    refine XS.iconst X0.here hx rfl (hb hby d2_1) ?_
    show Steps p.tables e below (s₁.setTop (mkF m 2 #[.val (.int p1)] [(.int (1 : Int32)), (.int p1)])) _
    refine XS.icmpYes X0.here hx rfl (pc0 := 2) (pc' := 9) rfl (hb hby d2_2) rfl (feq hc2).2 (by decide) (by decide) ?_
    show Steps p.tables e below (s₁.setTop (mkF m 9 #[.val (.int p1)] [])) _
    refine XS.iloadN X0.here hx rfl (hb hby d2_9) rfl ?_
    show Steps p.tables e below (s₁.setTop (mkF m 10 #[.val (.int p1)] [(.int p1)])) _
    refine XS.iconst X0.here hx rfl (hb hby d2_10) ?_
    show Steps p.tables e below (s₁.setTop (mkF m 11 #[.val (.int p1)] [(.int (2 : Int32)), (.int p1)])) _
    refine XS.icmpYes X0.here hx rfl (pc0 := 11) (pc' := 18) rfl (hb hby d2_11) rfl (feq hc11).2 (by decide) (by decide) ?_
    show Steps p.tables e below (s₁.setTop (mkF m 18 #[.val (.int p1)] [])) _
    refine XS.iloadN X0.here hx rfl (hb hby d2_18) rfl ?_
    show Steps p.tables e below (s₁.setTop (mkF m 19 #[.val (.int p1)] [(.int p1)])) _
    refine XS.iconst X0.here hx rfl (hb hby d2_19) ?_
    show Steps p.tables e below (s₁.setTop (mkF m 20 #[.val (.int p1)] [(.int (3 : Int32)), (.int p1)])) _
    refine XS.icmpYes X0.here hx rfl (pc0 := 20) (pc' := 27) rfl (hb hby d2_20) rfl (feq hc20).2 (by decide) (by decide) ?_
    show Steps p.tables e below (s₁.setTop (mkF m 27 #[.val (.int p1)] [])) _
    refine XS.iloadN X0.here hx rfl (hb hby d2_27) rfl ?_
    show Steps p.tables e below (s₁.setTop (mkF m 28 #[.val (.int p1)] [(.int p1)])) _
    refine XS.iconst X0.here hx rfl (hb hby d2_28) ?_
    show Steps p.tables e below (s₁.setTop (mkF m 29 #[.val (.int p1)] [(.int (4 : Int32)), (.int p1)])) _
    refine XS.icmpYes X0.here hx rfl (pc0 := 29) (pc' := 36) rfl (hb hby d2_29) rfl (feq hc29).2 (by decide) (by decide) ?_
    show Steps p.tables e below (s₁.setTop (mkF m 36 #[.val (.int p1)] [])) _
    refine XS.iloadN X0.here hx rfl (hb hby d2_36) rfl ?_
    show Steps p.tables e below (s₁.setTop (mkF m 37 #[.val (.int p1)] [(.int p1)])) _
    refine XS.iconst X0.here hx rfl (hb hby d2_37) ?_
    show Steps p.tables e below (s₁.setTop (mkF m 38 #[.val (.int p1)] [(.int (5 : Int32)), (.int p1)])) _
    refine XS.icmpYes X0.here hx rfl (pc0 := 38) (pc' := 45) rfl (hb hby d2_38) rfl (feq hc38).2 (by decide) (by decide) ?_
    show Steps p.tables e below (s₁.setTop (mkF m 45 #[.val (.int p1)] [])) _
    refine XS.iloadN X0.here hx rfl (hb hby d2_45) rfl ?_
    show Steps p.tables e below (s₁.setTop (mkF m 46 #[.val (.int p1)] [(.int p1)])) _
    refine XS.bipush X0.here hx rfl (hb hby d2_46) ?_
    show Steps p.tables e below (s₁.setTop (mkF m 48 #[.val (.int p1)] [(.int (6 : Int32)), (.int p1)])) _
    refine XS.icmpYes X0.here hx rfl (pc0 := 48) (pc' := 55) rfl (hb hby d2_48) rfl (feq hc48).2 (by decide) (by decide) ?_
    show Steps p.tables e below (s₁.setTop (mkF m 55 #[.val (.int p1)] [])) _
    refine XS.iloadN X0.here hx rfl (hb hby d2_55) rfl ?_
    show Steps p.tables e below (s₁.setTop (mkF m 56 #[.val (.int p1)] [(.int p1)])) _
    refine XS.bipush X0.here hx rfl (hb hby d2_56) ?_
    show Steps p.tables e below (s₁.setTop (mkF m 58 #[.val (.int p1)] [(.int (7 : Int32)), (.int p1)])) _
    refine XS.icmpYes X0.here hx rfl (pc0 := 58) (pc' := 65) rfl (hb hby d2_58) rfl (feq hc58).2 (by decide) (by decide) ?_
    show Steps p.tables e below (s₁.setTop (mkF m 65 #[.val (.int p1)] [])) _
    refine XS.iloadN X0.here hx rfl (hb hby d2_65) rfl ?_
    show Steps p.tables e below (s₁.setTop (mkF m 66 #[.val (.int p1)] [(.int p1)])) _
    refine XS.bipush X0.here hx rfl (hb hby d2_66) ?_
    show Steps p.tables e below (s₁.setTop (mkF m 68 #[.val (.int p1)] [(.int (8 : Int32)), (.int p1)])) _
    refine XS.icmpYes X0.here hx rfl (pc0 := 68) (pc' := 75) rfl (hb hby d2_68) rfl (feq hc68).2 (by decide) (by decide) ?_
    show Steps p.tables e below (s₁.setTop (mkF m 75 #[.val (.int p1)] [])) _
    refine XS.iloadN X0.here hx rfl (hb hby d2_75) rfl ?_
    show Steps p.tables e below (s₁.setTop (mkF m 76 #[.val (.int p1)] [(.int p1)])) _
    refine XS.bipush X0.here hx rfl (hb hby d2_76) ?_
    show Steps p.tables e below (s₁.setTop (mkF m 78 #[.val (.int p1)] [(.int (9 : Int32)), (.int p1)])) _
    refine XS.icmpYes X0.here hx rfl (pc0 := 78) (pc' := 85) rfl (hb hby d2_78) rfl (feq hc78).2 (by decide) (by decide) ?_
    show Steps p.tables e below (s₁.setTop (mkF m 85 #[.val (.int p1)] [])) _
    refine XS.iloadN X0.here hx rfl (hb hby d2_85) rfl ?_
    show Steps p.tables e below (s₁.setTop (mkF m 86 #[.val (.int p1)] [(.int p1)])) _
    refine XS.bipush X0.here hx rfl (hb hby d2_86) ?_
    show Steps p.tables e below (s₁.setTop (mkF m 88 #[.val (.int p1)] [(.int (11 : Int32)), (.int p1)])) _
    refine XS.icmpYes X0.here hx rfl (pc0 := 88) (pc' := 95) rfl (hb hby d2_88) rfl (feq hc88).2 (by decide) (by decide) ?_
    show Steps p.tables e below (s₁.setTop (mkF m 95 #[.val (.int p1)] [])) _
    refine XS.iloadN X0.here hx rfl (hb hby d2_95) rfl ?_
    show Steps p.tables e below (s₁.setTop (mkF m 96 #[.val (.int p1)] [(.int p1)])) _
    refine XS.bipush X0.here hx rfl (hb hby d2_96) ?_
    show Steps p.tables e below (s₁.setTop (mkF m 98 #[.val (.int p1)] [(.int (12 : Int32)), (.int p1)])) _
    refine XS.icmpYes X0.here hx rfl (pc0 := 98) (pc' := 105) rfl (hb hby d2_98) rfl (feq hc98).2 (by decide) (by decide) ?_
    show Steps p.tables e below (s₁.setTop (mkF m 105 #[.val (.int p1)] [])) _
    refine XS.iloadN X0.here hx rfl (hb hby d2_105) rfl ?_
    show Steps p.tables e below (s₁.setTop (mkF m 106 #[.val (.int p1)] [(.int p1)])) _
    refine XS.bipush X0.here hx rfl (hb hby d2_106) ?_
    show Steps p.tables e below (s₁.setTop (mkF m 108 #[.val (.int p1)] [(.int (13 : Int32)), (.int p1)])) _
    refine XS.icmpYes X0.here hx rfl (pc0 := 108) (pc' := 115) rfl (hb hby d2_108) rfl (feq hc108).2 (by decide) (by decide) ?_
    show Steps p.tables e below (s₁.setTop (mkF m 115 #[.val (.int p1)] [])) _
    refine XS.iloadN X0.here hx rfl (hb hby d2_115) rfl ?_
    show Steps p.tables e below (s₁.setTop (mkF m 116 #[.val (.int p1)] [(.int p1)])) _
    refine XS.bipush X0.here hx rfl (hb hby d2_116) ?_
    show Steps p.tables e below (s₁.setTop (mkF m 118 #[.val (.int p1)] [(.int (14 : Int32)), (.int p1)])) _
    refine XS.icmpYes X0.here hx rfl (pc0 := 118) (pc' := 125) rfl (hb hby d2_118) rfl (feq hc118).2 (by decide) (by decide) ?_
    show Steps p.tables e below (s₁.setTop (mkF m 125 #[.val (.int p1)] [])) _
    refine XS.iloadN X0.here hx rfl (hb hby d2_125) rfl ?_
    show Steps p.tables e below (s₁.setTop (mkF m 126 #[.val (.int p1)] [(.int p1)])) _
    refine XS.bipush X0.here hx rfl (hb hby d2_126) ?_
    show Steps p.tables e below (s₁.setTop (mkF m 128 #[.val (.int p1)] [(.int (15 : Int32)), (.int p1)])) _
    refine XS.icmpNo X0.here hx rfl (hb hby d2_128) rfl (teq hc128).2 ?_
    show Steps p.tables e below (s₁.setTop (mkF m 131 #[.val (.int p1)] [])) _
    refine st3 _ ?_
    show Steps p.tables e below (T3.setTop (mkF m 134 #[.val (.int p1)] [(.ref w2)])) _
    jvm_step X3.here [X3.here.top, hx, (hb hby d2_134), X3.method', Bd.returns, Value.isRef, FieldType.isReference]
    first | (intro acts; rw [hr _ acts rfl rfl rfl]) | rw [hr _ _ rfl rfl rfl]
    exact Steps.refl _
  · show Q1 (.ref w2) h0 n0 _ T3.heap _
    rw [e3]
    exact ⟨rfl, N0, rfl⟩


set_option maxRecDepth 65536 in
set_option maxHeartbeats 40000000 in
theorem rm2_14 (l : Launch) (Z : State) (a0 : Array Value) (hw : ∀ d ∈ tables_1, d.before a0 Z = true) (ws : List Jvm.Cond) (p1 : Int32) (w2 : Addr) (h0 : Heap) (n0 : Nat) (Z0 : n0 ≤ h0.size) (S_AUTH : Sta Z h0 "com/example/ulmus/ulmus/core/wire/OpCode" "AUTH" "Lcom/example/ulmus/ulmus/core/wire/OpCode;" (.ref w2)) (hc2 : ¬ (p1 = (1 : Int32))) (hc11 : ¬ (p1 = (2 : Int32))) (hc20 : ¬ (p1 = (3 : Int32))) (hc29 : ¬ (p1 = (4 : Int32))) (hc38 : ¬ (p1 = (5 : Int32))) (hc48 : ¬ (p1 = (6 : Int32))) (hc58 : ¬ (p1 = (7 : Int32))) (hc68 : ¬ (p1 = (8 : Int32))) (hc78 : ¬ (p1 = (9 : Int32))) (hc88 : ¬ (p1 = (11 : Int32))) (hc98 : ¬ (p1 = (12 : Int32))) (hc108 : ¬ (p1 = (13 : Int32))) (hc118 : ¬ (p1 = (14 : Int32))) (hc128 : ¬ (p1 = (15 : Int32))) (hc138 : p1 = (100 : Int32)) :
    MetFree l (⟨"com/example/ulmus/ulmus/core/wire/OpCodeOfPinLaw", "expected", "(I)Lcom/example/ulmus/ulmus/core/wire/OpCode;"⟩ : MethodName) (head1 (Jvm.Cond.code (⟨"com/example/ulmus/ulmus/core/wire/OpCodeOfPinLaw", "expected", "(I)Lcom/example/ulmus/ulmus/core/wire/OpCode;"⟩ : MethodName) method_3_code 1 (some (.object "com/example/ulmus/ulmus/core/wire/OpCode")) :: ws) ({ frames := 0, cells := 0, slots := 0, locals := 0 } : Room)) (fun a U => a = #[(.int p1)] ∧ Z.Warmed39 U.vm ∧ U.heap = h0) (fun _ _ _ _ _ => True) (fun _ U o U' => ∃ v L, o = .returned v ∧ Q1 (.ref w2) h0 n0 v U'.heap L ∧ FrameEnd U o U' L ({ frames := 0, cells := 0, slots := 0, locals := 0 } : Room).cells ({ frames := 0, cells := 0, slots := 0, locals := 0 } : Room).slots) := by
  refine MetFree.of_bodySF (plainFor_of_name pn_2) hisR ?_
  intro p e s m args below meth c s₁ Bd hml0 hP hK
  obtain ⟨rfl, hZ, hh⟩ := hP
  have hx := Bd.exec
  have hby := Bd.bytes
  have hml : c.maxLocals = 1 := hml0
  have hown : s.vm.findClass "com/example/ulmus/ulmus/core/wire/OpCodeOfPinLaw" = some m.cls := findClass_of_methodNamed Bd.named
  have hnm := (name_of_methodNamed Bd.named Bd.method).1
  have X0 : Stand p l e ({ frames := 0, cells := 0, slots := 0, locals := 0 } : Room) s m #[(.int p1)] below meth c s₁ [] 0 0 := Stand.of_body Bd
  have e0 : s₁.heap = h0 := by rw [← hh, Bd.state]; rfl
  have N0 := Fr.nil n0
  have pre0 : ∀ t, Steps p.tables e below (s₁.setTop (mkF m 0 #[.val (.int p1)] [])) t → Steps p.tables e below (s₁.setTop (entryFrame m #[(.int p1)] 1)) t := fun t k => castTop (ef_2 m p1) k
  obtain ⟨T3, X3, e3, st3⟩ := getS2 X0 hx hZ hown (host := "") (Or.inl (hw _ (List.mem_of_getElem? (i := 43) rfl))) Via.refl e0 S_AUTH (g := (mkF m 141 #[.val (.int p1)] [])) rfl (hb hby d2_141)
  obtain ⟨fs, hr, hrun, hended, hW, hsame⟩ := X3.leave (v := some (.ref w2)) (fun h => by rw [Bd.returns] at h; cases h)
  refine ⟨_, _, pre0 _ ?_, hrun, hended, _, _, rfl, ?_, ⟨_, rfl⟩, hW, hsame.mono (by decide) (by decide)⟩
  · show Steps p.tables e below (s₁.setTop (mkF m 0 #[.val (.int p1)] [])) _
    refine XS.iloadN X0.here hx rfl (hb hby d2_0) rfl ?_
    show Steps p.tables e below (s₁.setTop (mkF m 1 #[.val (.int p1)] [(.int p1)])) _
    refine XS.iconst X0.here hx rfl (hb hby d2_1) ?_
    show Steps p.tables e below (s₁.setTop (mkF m 2 #[.val (.int p1)] [(.int (1 : Int32)), (.int p1)])) _
    refine XS.icmpYes X0.here hx rfl (pc0 := 2) (pc' := 9) rfl (hb hby d2_2) rfl (feq hc2).2 (by decide) (by decide) ?_
    show Steps p.tables e below (s₁.setTop (mkF m 9 #[.val (.int p1)] [])) _
    refine XS.iloadN X0.here hx rfl (hb hby d2_9) rfl ?_
    show Steps p.tables e below (s₁.setTop (mkF m 10 #[.val (.int p1)] [(.int p1)])) _
    refine XS.iconst X0.here hx rfl (hb hby d2_10) ?_
    show Steps p.tables e below (s₁.setTop (mkF m 11 #[.val (.int p1)] [(.int (2 : Int32)), (.int p1)])) _
    refine XS.icmpYes X0.here hx rfl (pc0 := 11) (pc' := 18) rfl (hb hby d2_11) rfl (feq hc11).2 (by decide) (by decide) ?_
    show Steps p.tables e below (s₁.setTop (mkF m 18 #[.val (.int p1)] [])) _
    refine XS.iloadN X0.here hx rfl (hb hby d2_18) rfl ?_
    show Steps p.tables e below (s₁.setTop (mkF m 19 #[.val (.int p1)] [(.int p1)])) _
    refine XS.iconst X0.here hx rfl (hb hby d2_19) ?_
    show Steps p.tables e below (s₁.setTop (mkF m 20 #[.val (.int p1)] [(.int (3 : Int32)), (.int p1)])) _
    refine XS.icmpYes X0.here hx rfl (pc0 := 20) (pc' := 27) rfl (hb hby d2_20) rfl (feq hc20).2 (by decide) (by decide) ?_
    show Steps p.tables e below (s₁.setTop (mkF m 27 #[.val (.int p1)] [])) _
    refine XS.iloadN X0.here hx rfl (hb hby d2_27) rfl ?_
    show Steps p.tables e below (s₁.setTop (mkF m 28 #[.val (.int p1)] [(.int p1)])) _
    refine XS.iconst X0.here hx rfl (hb hby d2_28) ?_
    show Steps p.tables e below (s₁.setTop (mkF m 29 #[.val (.int p1)] [(.int (4 : Int32)), (.int p1)])) _
    refine XS.icmpYes X0.here hx rfl (pc0 := 29) (pc' := 36) rfl (hb hby d2_29) rfl (feq hc29).2 (by decide) (by decide) ?_
    show Steps p.tables e below (s₁.setTop (mkF m 36 #[.val (.int p1)] [])) _
    refine XS.iloadN X0.here hx rfl (hb hby d2_36) rfl ?_
    show Steps p.tables e below (s₁.setTop (mkF m 37 #[.val (.int p1)] [(.int p1)])) _
    refine XS.iconst X0.here hx rfl (hb hby d2_37) ?_
    show Steps p.tables e below (s₁.setTop (mkF m 38 #[.val (.int p1)] [(.int (5 : Int32)), (.int p1)])) _
    refine XS.icmpYes X0.here hx rfl (pc0 := 38) (pc' := 45) rfl (hb hby d2_38) rfl (feq hc38).2 (by decide) (by decide) ?_
    show Steps p.tables e below (s₁.setTop (mkF m 45 #[.val (.int p1)] [])) _
    refine XS.iloadN X0.here hx rfl (hb hby d2_45) rfl ?_
    show Steps p.tables e below (s₁.setTop (mkF m 46 #[.val (.int p1)] [(.int p1)])) _
    refine XS.bipush X0.here hx rfl (hb hby d2_46) ?_
    show Steps p.tables e below (s₁.setTop (mkF m 48 #[.val (.int p1)] [(.int (6 : Int32)), (.int p1)])) _
    refine XS.icmpYes X0.here hx rfl (pc0 := 48) (pc' := 55) rfl (hb hby d2_48) rfl (feq hc48).2 (by decide) (by decide) ?_
    show Steps p.tables e below (s₁.setTop (mkF m 55 #[.val (.int p1)] [])) _
    refine XS.iloadN X0.here hx rfl (hb hby d2_55) rfl ?_
    show Steps p.tables e below (s₁.setTop (mkF m 56 #[.val (.int p1)] [(.int p1)])) _
    refine XS.bipush X0.here hx rfl (hb hby d2_56) ?_
    show Steps p.tables e below (s₁.setTop (mkF m 58 #[.val (.int p1)] [(.int (7 : Int32)), (.int p1)])) _
    refine XS.icmpYes X0.here hx rfl (pc0 := 58) (pc' := 65) rfl (hb hby d2_58) rfl (feq hc58).2 (by decide) (by decide) ?_
    show Steps p.tables e below (s₁.setTop (mkF m 65 #[.val (.int p1)] [])) _
    refine XS.iloadN X0.here hx rfl (hb hby d2_65) rfl ?_
    show Steps p.tables e below (s₁.setTop (mkF m 66 #[.val (.int p1)] [(.int p1)])) _
    refine XS.bipush X0.here hx rfl (hb hby d2_66) ?_
    show Steps p.tables e below (s₁.setTop (mkF m 68 #[.val (.int p1)] [(.int (8 : Int32)), (.int p1)])) _
    refine XS.icmpYes X0.here hx rfl (pc0 := 68) (pc' := 75) rfl (hb hby d2_68) rfl (feq hc68).2 (by decide) (by decide) ?_
    show Steps p.tables e below (s₁.setTop (mkF m 75 #[.val (.int p1)] [])) _
    refine XS.iloadN X0.here hx rfl (hb hby d2_75) rfl ?_
    show Steps p.tables e below (s₁.setTop (mkF m 76 #[.val (.int p1)] [(.int p1)])) _
    refine XS.bipush X0.here hx rfl (hb hby d2_76) ?_
    show Steps p.tables e below (s₁.setTop (mkF m 78 #[.val (.int p1)] [(.int (9 : Int32)), (.int p1)])) _
    refine XS.icmpYes X0.here hx rfl (pc0 := 78) (pc' := 85) rfl (hb hby d2_78) rfl (feq hc78).2 (by decide) (by decide) ?_
    show Steps p.tables e below (s₁.setTop (mkF m 85 #[.val (.int p1)] [])) _
    refine XS.iloadN X0.here hx rfl (hb hby d2_85) rfl ?_
    show Steps p.tables e below (s₁.setTop (mkF m 86 #[.val (.int p1)] [(.int p1)])) _
    refine XS.bipush X0.here hx rfl (hb hby d2_86) ?_
    show Steps p.tables e below (s₁.setTop (mkF m 88 #[.val (.int p1)] [(.int (11 : Int32)), (.int p1)])) _
    refine XS.icmpYes X0.here hx rfl (pc0 := 88) (pc' := 95) rfl (hb hby d2_88) rfl (feq hc88).2 (by decide) (by decide) ?_
    show Steps p.tables e below (s₁.setTop (mkF m 95 #[.val (.int p1)] [])) _
    refine XS.iloadN X0.here hx rfl (hb hby d2_95) rfl ?_
    show Steps p.tables e below (s₁.setTop (mkF m 96 #[.val (.int p1)] [(.int p1)])) _
    refine XS.bipush X0.here hx rfl (hb hby d2_96) ?_
    show Steps p.tables e below (s₁.setTop (mkF m 98 #[.val (.int p1)] [(.int (12 : Int32)), (.int p1)])) _
    refine XS.icmpYes X0.here hx rfl (pc0 := 98) (pc' := 105) rfl (hb hby d2_98) rfl (feq hc98).2 (by decide) (by decide) ?_
    show Steps p.tables e below (s₁.setTop (mkF m 105 #[.val (.int p1)] [])) _
    refine XS.iloadN X0.here hx rfl (hb hby d2_105) rfl ?_
    show Steps p.tables e below (s₁.setTop (mkF m 106 #[.val (.int p1)] [(.int p1)])) _
    refine XS.bipush X0.here hx rfl (hb hby d2_106) ?_
    show Steps p.tables e below (s₁.setTop (mkF m 108 #[.val (.int p1)] [(.int (13 : Int32)), (.int p1)])) _
    refine XS.icmpYes X0.here hx rfl (pc0 := 108) (pc' := 115) rfl (hb hby d2_108) rfl (feq hc108).2 (by decide) (by decide) ?_
    show Steps p.tables e below (s₁.setTop (mkF m 115 #[.val (.int p1)] [])) _
    refine XS.iloadN X0.here hx rfl (hb hby d2_115) rfl ?_
    show Steps p.tables e below (s₁.setTop (mkF m 116 #[.val (.int p1)] [(.int p1)])) _
    refine XS.bipush X0.here hx rfl (hb hby d2_116) ?_
    show Steps p.tables e below (s₁.setTop (mkF m 118 #[.val (.int p1)] [(.int (14 : Int32)), (.int p1)])) _
    refine XS.icmpYes X0.here hx rfl (pc0 := 118) (pc' := 125) rfl (hb hby d2_118) rfl (feq hc118).2 (by decide) (by decide) ?_
    show Steps p.tables e below (s₁.setTop (mkF m 125 #[.val (.int p1)] [])) _
    refine XS.iloadN X0.here hx rfl (hb hby d2_125) rfl ?_
    show Steps p.tables e below (s₁.setTop (mkF m 126 #[.val (.int p1)] [(.int p1)])) _
    refine XS.bipush X0.here hx rfl (hb hby d2_126) ?_
    show Steps p.tables e below (s₁.setTop (mkF m 128 #[.val (.int p1)] [(.int (15 : Int32)), (.int p1)])) _
    refine XS.icmpYes X0.here hx rfl (pc0 := 128) (pc' := 135) rfl (hb hby d2_128) rfl (feq hc128).2 (by decide) (by decide) ?_
    show Steps p.tables e below (s₁.setTop (mkF m 135 #[.val (.int p1)] [])) _
    refine XS.iloadN X0.here hx rfl (hb hby d2_135) rfl ?_
    show Steps p.tables e below (s₁.setTop (mkF m 136 #[.val (.int p1)] [(.int p1)])) _
    refine XS.bipush X0.here hx rfl (hb hby d2_136) ?_
    show Steps p.tables e below (s₁.setTop (mkF m 138 #[.val (.int p1)] [(.int (100 : Int32)), (.int p1)])) _
    refine XS.icmpNo X0.here hx rfl (hb hby d2_138) rfl (teq hc138).2 ?_
    show Steps p.tables e below (s₁.setTop (mkF m 141 #[.val (.int p1)] [])) _
    refine st3 _ ?_
    show Steps p.tables e below (T3.setTop (mkF m 144 #[.val (.int p1)] [(.ref w2)])) _
    jvm_step X3.here [X3.here.top, hx, (hb hby d2_144), X3.method', Bd.returns, Value.isRef, FieldType.isReference]
    first | (intro acts; rw [hr _ acts rfl rfl rfl]) | rw [hr _ _ rfl rfl rfl]
    exact Steps.refl _
  · show Q1 (.ref w2) h0 n0 _ T3.heap _
    rw [e3]
    exact ⟨rfl, N0, rfl⟩


set_option maxRecDepth 65536 in
set_option maxHeartbeats 40000000 in
theorem rm2_15 (l : Launch) (Z : State) (a0 : Array Value) (hw : ∀ d ∈ tables_1, d.before a0 Z = true) (ws : List Jvm.Cond) (p1 : Int32) (w2 : Addr) (h0 : Heap) (n0 : Nat) (Z0 : n0 ≤ h0.size) (S_SET_WATCHES : Sta Z h0 "com/example/ulmus/ulmus/core/wire/OpCode" "SET_WATCHES" "Lcom/example/ulmus/ulmus/core/wire/OpCode;" (.ref w2)) (hc2 : ¬ (p1 = (1 : Int32))) (hc11 : ¬ (p1 = (2 : Int32))) (hc20 : ¬ (p1 = (3 : Int32))) (hc29 : ¬ (p1 = (4 : Int32))) (hc38 : ¬ (p1 = (5 : Int32))) (hc48 : ¬ (p1 = (6 : Int32))) (hc58 : ¬ (p1 = (7 : Int32))) (hc68 : ¬ (p1 = (8 : Int32))) (hc78 : ¬ (p1 = (9 : Int32))) (hc88 : ¬ (p1 = (11 : Int32))) (hc98 : ¬ (p1 = (12 : Int32))) (hc108 : ¬ (p1 = (13 : Int32))) (hc118 : ¬ (p1 = (14 : Int32))) (hc128 : ¬ (p1 = (15 : Int32))) (hc138 : ¬ (p1 = (100 : Int32))) (hc148 : p1 = (101 : Int32)) :
    MetFree l (⟨"com/example/ulmus/ulmus/core/wire/OpCodeOfPinLaw", "expected", "(I)Lcom/example/ulmus/ulmus/core/wire/OpCode;"⟩ : MethodName) (head1 (Jvm.Cond.code (⟨"com/example/ulmus/ulmus/core/wire/OpCodeOfPinLaw", "expected", "(I)Lcom/example/ulmus/ulmus/core/wire/OpCode;"⟩ : MethodName) method_3_code 1 (some (.object "com/example/ulmus/ulmus/core/wire/OpCode")) :: ws) ({ frames := 0, cells := 0, slots := 0, locals := 0 } : Room)) (fun a U => a = #[(.int p1)] ∧ Z.Warmed39 U.vm ∧ U.heap = h0) (fun _ _ _ _ _ => True) (fun _ U o U' => ∃ v L, o = .returned v ∧ Q1 (.ref w2) h0 n0 v U'.heap L ∧ FrameEnd U o U' L ({ frames := 0, cells := 0, slots := 0, locals := 0 } : Room).cells ({ frames := 0, cells := 0, slots := 0, locals := 0 } : Room).slots) := by
  refine MetFree.of_bodySF (plainFor_of_name pn_2) hisR ?_
  intro p e s m args below meth c s₁ Bd hml0 hP hK
  obtain ⟨rfl, hZ, hh⟩ := hP
  have hx := Bd.exec
  have hby := Bd.bytes
  have hml : c.maxLocals = 1 := hml0
  have hown : s.vm.findClass "com/example/ulmus/ulmus/core/wire/OpCodeOfPinLaw" = some m.cls := findClass_of_methodNamed Bd.named
  have hnm := (name_of_methodNamed Bd.named Bd.method).1
  have X0 : Stand p l e ({ frames := 0, cells := 0, slots := 0, locals := 0 } : Room) s m #[(.int p1)] below meth c s₁ [] 0 0 := Stand.of_body Bd
  have e0 : s₁.heap = h0 := by rw [← hh, Bd.state]; rfl
  have N0 := Fr.nil n0
  have pre0 : ∀ t, Steps p.tables e below (s₁.setTop (mkF m 0 #[.val (.int p1)] [])) t → Steps p.tables e below (s₁.setTop (entryFrame m #[(.int p1)] 1)) t := fun t k => castTop (ef_2 m p1) k
  obtain ⟨T3, X3, e3, st3⟩ := getS2 X0 hx hZ hown (host := "") (Or.inl (hw _ (List.mem_of_getElem? (i := 41) rfl))) Via.refl e0 S_SET_WATCHES (g := (mkF m 151 #[.val (.int p1)] [])) rfl (hb hby d2_151)
  obtain ⟨fs, hr, hrun, hended, hW, hsame⟩ := X3.leave (v := some (.ref w2)) (fun h => by rw [Bd.returns] at h; cases h)
  refine ⟨_, _, pre0 _ ?_, hrun, hended, _, _, rfl, ?_, ⟨_, rfl⟩, hW, hsame.mono (by decide) (by decide)⟩
  · show Steps p.tables e below (s₁.setTop (mkF m 0 #[.val (.int p1)] [])) _
    refine XS.iloadN X0.here hx rfl (hb hby d2_0) rfl ?_
    show Steps p.tables e below (s₁.setTop (mkF m 1 #[.val (.int p1)] [(.int p1)])) _
    refine XS.iconst X0.here hx rfl (hb hby d2_1) ?_
    show Steps p.tables e below (s₁.setTop (mkF m 2 #[.val (.int p1)] [(.int (1 : Int32)), (.int p1)])) _
    refine XS.icmpYes X0.here hx rfl (pc0 := 2) (pc' := 9) rfl (hb hby d2_2) rfl (feq hc2).2 (by decide) (by decide) ?_
    show Steps p.tables e below (s₁.setTop (mkF m 9 #[.val (.int p1)] [])) _
    refine XS.iloadN X0.here hx rfl (hb hby d2_9) rfl ?_
    show Steps p.tables e below (s₁.setTop (mkF m 10 #[.val (.int p1)] [(.int p1)])) _
    refine XS.iconst X0.here hx rfl (hb hby d2_10) ?_
    show Steps p.tables e below (s₁.setTop (mkF m 11 #[.val (.int p1)] [(.int (2 : Int32)), (.int p1)])) _
    refine XS.icmpYes X0.here hx rfl (pc0 := 11) (pc' := 18) rfl (hb hby d2_11) rfl (feq hc11).2 (by decide) (by decide) ?_
    show Steps p.tables e below (s₁.setTop (mkF m 18 #[.val (.int p1)] [])) _
    refine XS.iloadN X0.here hx rfl (hb hby d2_18) rfl ?_
    show Steps p.tables e below (s₁.setTop (mkF m 19 #[.val (.int p1)] [(.int p1)])) _
    refine XS.iconst X0.here hx rfl (hb hby d2_19) ?_
    show Steps p.tables e below (s₁.setTop (mkF m 20 #[.val (.int p1)] [(.int (3 : Int32)), (.int p1)])) _
    refine XS.icmpYes X0.here hx rfl (pc0 := 20) (pc' := 27) rfl (hb hby d2_20) rfl (feq hc20).2 (by decide) (by decide) ?_
    show Steps p.tables e below (s₁.setTop (mkF m 27 #[.val (.int p1)] [])) _
    refine XS.iloadN X0.here hx rfl (hb hby d2_27) rfl ?_
    show Steps p.tables e below (s₁.setTop (mkF m 28 #[.val (.int p1)] [(.int p1)])) _
    refine XS.iconst X0.here hx rfl (hb hby d2_28) ?_
    show Steps p.tables e below (s₁.setTop (mkF m 29 #[.val (.int p1)] [(.int (4 : Int32)), (.int p1)])) _
    refine XS.icmpYes X0.here hx rfl (pc0 := 29) (pc' := 36) rfl (hb hby d2_29) rfl (feq hc29).2 (by decide) (by decide) ?_
    show Steps p.tables e below (s₁.setTop (mkF m 36 #[.val (.int p1)] [])) _
    refine XS.iloadN X0.here hx rfl (hb hby d2_36) rfl ?_
    show Steps p.tables e below (s₁.setTop (mkF m 37 #[.val (.int p1)] [(.int p1)])) _
    refine XS.iconst X0.here hx rfl (hb hby d2_37) ?_
    show Steps p.tables e below (s₁.setTop (mkF m 38 #[.val (.int p1)] [(.int (5 : Int32)), (.int p1)])) _
    refine XS.icmpYes X0.here hx rfl (pc0 := 38) (pc' := 45) rfl (hb hby d2_38) rfl (feq hc38).2 (by decide) (by decide) ?_
    show Steps p.tables e below (s₁.setTop (mkF m 45 #[.val (.int p1)] [])) _
    refine XS.iloadN X0.here hx rfl (hb hby d2_45) rfl ?_
    show Steps p.tables e below (s₁.setTop (mkF m 46 #[.val (.int p1)] [(.int p1)])) _
    refine XS.bipush X0.here hx rfl (hb hby d2_46) ?_
    show Steps p.tables e below (s₁.setTop (mkF m 48 #[.val (.int p1)] [(.int (6 : Int32)), (.int p1)])) _
    refine XS.icmpYes X0.here hx rfl (pc0 := 48) (pc' := 55) rfl (hb hby d2_48) rfl (feq hc48).2 (by decide) (by decide) ?_
    show Steps p.tables e below (s₁.setTop (mkF m 55 #[.val (.int p1)] [])) _
    refine XS.iloadN X0.here hx rfl (hb hby d2_55) rfl ?_
    show Steps p.tables e below (s₁.setTop (mkF m 56 #[.val (.int p1)] [(.int p1)])) _
    refine XS.bipush X0.here hx rfl (hb hby d2_56) ?_
    show Steps p.tables e below (s₁.setTop (mkF m 58 #[.val (.int p1)] [(.int (7 : Int32)), (.int p1)])) _
    refine XS.icmpYes X0.here hx rfl (pc0 := 58) (pc' := 65) rfl (hb hby d2_58) rfl (feq hc58).2 (by decide) (by decide) ?_
    show Steps p.tables e below (s₁.setTop (mkF m 65 #[.val (.int p1)] [])) _
    refine XS.iloadN X0.here hx rfl (hb hby d2_65) rfl ?_
    show Steps p.tables e below (s₁.setTop (mkF m 66 #[.val (.int p1)] [(.int p1)])) _
    refine XS.bipush X0.here hx rfl (hb hby d2_66) ?_
    show Steps p.tables e below (s₁.setTop (mkF m 68 #[.val (.int p1)] [(.int (8 : Int32)), (.int p1)])) _
    refine XS.icmpYes X0.here hx rfl (pc0 := 68) (pc' := 75) rfl (hb hby d2_68) rfl (feq hc68).2 (by decide) (by decide) ?_
    show Steps p.tables e below (s₁.setTop (mkF m 75 #[.val (.int p1)] [])) _
    refine XS.iloadN X0.here hx rfl (hb hby d2_75) rfl ?_
    show Steps p.tables e below (s₁.setTop (mkF m 76 #[.val (.int p1)] [(.int p1)])) _
    refine XS.bipush X0.here hx rfl (hb hby d2_76) ?_
    show Steps p.tables e below (s₁.setTop (mkF m 78 #[.val (.int p1)] [(.int (9 : Int32)), (.int p1)])) _
    refine XS.icmpYes X0.here hx rfl (pc0 := 78) (pc' := 85) rfl (hb hby d2_78) rfl (feq hc78).2 (by decide) (by decide) ?_
    show Steps p.tables e below (s₁.setTop (mkF m 85 #[.val (.int p1)] [])) _
    refine XS.iloadN X0.here hx rfl (hb hby d2_85) rfl ?_
    show Steps p.tables e below (s₁.setTop (mkF m 86 #[.val (.int p1)] [(.int p1)])) _
    refine XS.bipush X0.here hx rfl (hb hby d2_86) ?_
    show Steps p.tables e below (s₁.setTop (mkF m 88 #[.val (.int p1)] [(.int (11 : Int32)), (.int p1)])) _
    refine XS.icmpYes X0.here hx rfl (pc0 := 88) (pc' := 95) rfl (hb hby d2_88) rfl (feq hc88).2 (by decide) (by decide) ?_
    show Steps p.tables e below (s₁.setTop (mkF m 95 #[.val (.int p1)] [])) _
    refine XS.iloadN X0.here hx rfl (hb hby d2_95) rfl ?_
    show Steps p.tables e below (s₁.setTop (mkF m 96 #[.val (.int p1)] [(.int p1)])) _
    refine XS.bipush X0.here hx rfl (hb hby d2_96) ?_
    show Steps p.tables e below (s₁.setTop (mkF m 98 #[.val (.int p1)] [(.int (12 : Int32)), (.int p1)])) _
    refine XS.icmpYes X0.here hx rfl (pc0 := 98) (pc' := 105) rfl (hb hby d2_98) rfl (feq hc98).2 (by decide) (by decide) ?_
    show Steps p.tables e below (s₁.setTop (mkF m 105 #[.val (.int p1)] [])) _
    refine XS.iloadN X0.here hx rfl (hb hby d2_105) rfl ?_
    show Steps p.tables e below (s₁.setTop (mkF m 106 #[.val (.int p1)] [(.int p1)])) _
    refine XS.bipush X0.here hx rfl (hb hby d2_106) ?_
    show Steps p.tables e below (s₁.setTop (mkF m 108 #[.val (.int p1)] [(.int (13 : Int32)), (.int p1)])) _
    refine XS.icmpYes X0.here hx rfl (pc0 := 108) (pc' := 115) rfl (hb hby d2_108) rfl (feq hc108).2 (by decide) (by decide) ?_
    show Steps p.tables e below (s₁.setTop (mkF m 115 #[.val (.int p1)] [])) _
    refine XS.iloadN X0.here hx rfl (hb hby d2_115) rfl ?_
    show Steps p.tables e below (s₁.setTop (mkF m 116 #[.val (.int p1)] [(.int p1)])) _
    refine XS.bipush X0.here hx rfl (hb hby d2_116) ?_
    show Steps p.tables e below (s₁.setTop (mkF m 118 #[.val (.int p1)] [(.int (14 : Int32)), (.int p1)])) _
    refine XS.icmpYes X0.here hx rfl (pc0 := 118) (pc' := 125) rfl (hb hby d2_118) rfl (feq hc118).2 (by decide) (by decide) ?_
    show Steps p.tables e below (s₁.setTop (mkF m 125 #[.val (.int p1)] [])) _
    refine XS.iloadN X0.here hx rfl (hb hby d2_125) rfl ?_
    show Steps p.tables e below (s₁.setTop (mkF m 126 #[.val (.int p1)] [(.int p1)])) _
    refine XS.bipush X0.here hx rfl (hb hby d2_126) ?_
    show Steps p.tables e below (s₁.setTop (mkF m 128 #[.val (.int p1)] [(.int (15 : Int32)), (.int p1)])) _
    refine XS.icmpYes X0.here hx rfl (pc0 := 128) (pc' := 135) rfl (hb hby d2_128) rfl (feq hc128).2 (by decide) (by decide) ?_
    show Steps p.tables e below (s₁.setTop (mkF m 135 #[.val (.int p1)] [])) _
    refine XS.iloadN X0.here hx rfl (hb hby d2_135) rfl ?_
    show Steps p.tables e below (s₁.setTop (mkF m 136 #[.val (.int p1)] [(.int p1)])) _
    refine XS.bipush X0.here hx rfl (hb hby d2_136) ?_
    show Steps p.tables e below (s₁.setTop (mkF m 138 #[.val (.int p1)] [(.int (100 : Int32)), (.int p1)])) _
    refine XS.icmpYes X0.here hx rfl (pc0 := 138) (pc' := 145) rfl (hb hby d2_138) rfl (feq hc138).2 (by decide) (by decide) ?_
    show Steps p.tables e below (s₁.setTop (mkF m 145 #[.val (.int p1)] [])) _
    refine XS.iloadN X0.here hx rfl (hb hby d2_145) rfl ?_
    show Steps p.tables e below (s₁.setTop (mkF m 146 #[.val (.int p1)] [(.int p1)])) _
    refine XS.bipush X0.here hx rfl (hb hby d2_146) ?_
    show Steps p.tables e below (s₁.setTop (mkF m 148 #[.val (.int p1)] [(.int (101 : Int32)), (.int p1)])) _
    refine XS.icmpNo X0.here hx rfl (hb hby d2_148) rfl (teq hc148).2 ?_
    show Steps p.tables e below (s₁.setTop (mkF m 151 #[.val (.int p1)] [])) _
    refine st3 _ ?_
    show Steps p.tables e below (T3.setTop (mkF m 154 #[.val (.int p1)] [(.ref w2)])) _
    jvm_step X3.here [X3.here.top, hx, (hb hby d2_154), X3.method', Bd.returns, Value.isRef, FieldType.isReference]
    first | (intro acts; rw [hr _ acts rfl rfl rfl]) | rw [hr _ _ rfl rfl rfl]
    exact Steps.refl _
  · show Q1 (.ref w2) h0 n0 _ T3.heap _
    rw [e3]
    exact ⟨rfl, N0, rfl⟩


set_option maxRecDepth 65536 in
set_option maxHeartbeats 40000000 in
theorem rm2_16 (l : Launch) (Z : State) (a0 : Array Value) (hw : ∀ d ∈ tables_1, d.before a0 Z = true) (ws : List Jvm.Cond) (p1 : Int32) (w2 : Addr) (h0 : Heap) (n0 : Nat) (Z0 : n0 ≤ h0.size) (S_CLOSE_SESSION : Sta Z h0 "com/example/ulmus/ulmus/core/wire/OpCode" "CLOSE_SESSION" "Lcom/example/ulmus/ulmus/core/wire/OpCode;" (.ref w2)) (hc2 : ¬ (p1 = (1 : Int32))) (hc11 : ¬ (p1 = (2 : Int32))) (hc20 : ¬ (p1 = (3 : Int32))) (hc29 : ¬ (p1 = (4 : Int32))) (hc38 : ¬ (p1 = (5 : Int32))) (hc48 : ¬ (p1 = (6 : Int32))) (hc58 : ¬ (p1 = (7 : Int32))) (hc68 : ¬ (p1 = (8 : Int32))) (hc78 : ¬ (p1 = (9 : Int32))) (hc88 : ¬ (p1 = (11 : Int32))) (hc98 : ¬ (p1 = (12 : Int32))) (hc108 : ¬ (p1 = (13 : Int32))) (hc118 : ¬ (p1 = (14 : Int32))) (hc128 : ¬ (p1 = (15 : Int32))) (hc138 : ¬ (p1 = (100 : Int32))) (hc148 : ¬ (p1 = (101 : Int32))) (hc158 : p1 = (-11 : Int32)) :
    MetFree l (⟨"com/example/ulmus/ulmus/core/wire/OpCodeOfPinLaw", "expected", "(I)Lcom/example/ulmus/ulmus/core/wire/OpCode;"⟩ : MethodName) (head1 (Jvm.Cond.code (⟨"com/example/ulmus/ulmus/core/wire/OpCodeOfPinLaw", "expected", "(I)Lcom/example/ulmus/ulmus/core/wire/OpCode;"⟩ : MethodName) method_3_code 1 (some (.object "com/example/ulmus/ulmus/core/wire/OpCode")) :: ws) ({ frames := 0, cells := 0, slots := 0, locals := 0 } : Room)) (fun a U => a = #[(.int p1)] ∧ Z.Warmed39 U.vm ∧ U.heap = h0) (fun _ _ _ _ _ => True) (fun _ U o U' => ∃ v L, o = .returned v ∧ Q1 (.ref w2) h0 n0 v U'.heap L ∧ FrameEnd U o U' L ({ frames := 0, cells := 0, slots := 0, locals := 0 } : Room).cells ({ frames := 0, cells := 0, slots := 0, locals := 0 } : Room).slots) := by
  refine MetFree.of_bodySF (plainFor_of_name pn_2) hisR ?_
  intro p e s m args below meth c s₁ Bd hml0 hP hK
  obtain ⟨rfl, hZ, hh⟩ := hP
  have hx := Bd.exec
  have hby := Bd.bytes
  have hml : c.maxLocals = 1 := hml0
  have hown : s.vm.findClass "com/example/ulmus/ulmus/core/wire/OpCodeOfPinLaw" = some m.cls := findClass_of_methodNamed Bd.named
  have hnm := (name_of_methodNamed Bd.named Bd.method).1
  have X0 : Stand p l e ({ frames := 0, cells := 0, slots := 0, locals := 0 } : Room) s m #[(.int p1)] below meth c s₁ [] 0 0 := Stand.of_body Bd
  have e0 : s₁.heap = h0 := by rw [← hh, Bd.state]; rfl
  have N0 := Fr.nil n0
  have pre0 : ∀ t, Steps p.tables e below (s₁.setTop (mkF m 0 #[.val (.int p1)] [])) t → Steps p.tables e below (s₁.setTop (entryFrame m #[(.int p1)] 1)) t := fun t k => castTop (ef_2 m p1) k
  obtain ⟨T3, X3, e3, st3⟩ := getS2 X0 hx hZ hown (host := "") (Or.inl (hw _ (List.mem_of_getElem? (i := 38) rfl))) Via.refl e0 S_CLOSE_SESSION (g := (mkF m 161 #[.val (.int p1)] [])) rfl (hb hby d2_161)
  obtain ⟨fs, hr, hrun, hended, hW, hsame⟩ := X3.leave (v := some (.ref w2)) (fun h => by rw [Bd.returns] at h; cases h)
  refine ⟨_, _, pre0 _ ?_, hrun, hended, _, _, rfl, ?_, ⟨_, rfl⟩, hW, hsame.mono (by decide) (by decide)⟩
  · show Steps p.tables e below (s₁.setTop (mkF m 0 #[.val (.int p1)] [])) _
    refine XS.iloadN X0.here hx rfl (hb hby d2_0) rfl ?_
    show Steps p.tables e below (s₁.setTop (mkF m 1 #[.val (.int p1)] [(.int p1)])) _
    refine XS.iconst X0.here hx rfl (hb hby d2_1) ?_
    show Steps p.tables e below (s₁.setTop (mkF m 2 #[.val (.int p1)] [(.int (1 : Int32)), (.int p1)])) _
    refine XS.icmpYes X0.here hx rfl (pc0 := 2) (pc' := 9) rfl (hb hby d2_2) rfl (feq hc2).2 (by decide) (by decide) ?_
    show Steps p.tables e below (s₁.setTop (mkF m 9 #[.val (.int p1)] [])) _
    refine XS.iloadN X0.here hx rfl (hb hby d2_9) rfl ?_
    show Steps p.tables e below (s₁.setTop (mkF m 10 #[.val (.int p1)] [(.int p1)])) _
    refine XS.iconst X0.here hx rfl (hb hby d2_10) ?_
    show Steps p.tables e below (s₁.setTop (mkF m 11 #[.val (.int p1)] [(.int (2 : Int32)), (.int p1)])) _
    refine XS.icmpYes X0.here hx rfl (pc0 := 11) (pc' := 18) rfl (hb hby d2_11) rfl (feq hc11).2 (by decide) (by decide) ?_
    show Steps p.tables e below (s₁.setTop (mkF m 18 #[.val (.int p1)] [])) _
    refine XS.iloadN X0.here hx rfl (hb hby d2_18) rfl ?_
    show Steps p.tables e below (s₁.setTop (mkF m 19 #[.val (.int p1)] [(.int p1)])) _
    refine XS.iconst X0.here hx rfl (hb hby d2_19) ?_
    show Steps p.tables e below (s₁.setTop (mkF m 20 #[.val (.int p1)] [(.int (3 : Int32)), (.int p1)])) _
    refine XS.icmpYes X0.here hx rfl (pc0 := 20) (pc' := 27) rfl (hb hby d2_20) rfl (feq hc20).2 (by decide) (by decide) ?_
    show Steps p.tables e below (s₁.setTop (mkF m 27 #[.val (.int p1)] [])) _
    refine XS.iloadN X0.here hx rfl (hb hby d2_27) rfl ?_
    show Steps p.tables e below (s₁.setTop (mkF m 28 #[.val (.int p1)] [(.int p1)])) _
    refine XS.iconst X0.here hx rfl (hb hby d2_28) ?_
    show Steps p.tables e below (s₁.setTop (mkF m 29 #[.val (.int p1)] [(.int (4 : Int32)), (.int p1)])) _
    refine XS.icmpYes X0.here hx rfl (pc0 := 29) (pc' := 36) rfl (hb hby d2_29) rfl (feq hc29).2 (by decide) (by decide) ?_
    show Steps p.tables e below (s₁.setTop (mkF m 36 #[.val (.int p1)] [])) _
    refine XS.iloadN X0.here hx rfl (hb hby d2_36) rfl ?_
    show Steps p.tables e below (s₁.setTop (mkF m 37 #[.val (.int p1)] [(.int p1)])) _
    refine XS.iconst X0.here hx rfl (hb hby d2_37) ?_
    show Steps p.tables e below (s₁.setTop (mkF m 38 #[.val (.int p1)] [(.int (5 : Int32)), (.int p1)])) _
    refine XS.icmpYes X0.here hx rfl (pc0 := 38) (pc' := 45) rfl (hb hby d2_38) rfl (feq hc38).2 (by decide) (by decide) ?_
    show Steps p.tables e below (s₁.setTop (mkF m 45 #[.val (.int p1)] [])) _
    refine XS.iloadN X0.here hx rfl (hb hby d2_45) rfl ?_
    show Steps p.tables e below (s₁.setTop (mkF m 46 #[.val (.int p1)] [(.int p1)])) _
    refine XS.bipush X0.here hx rfl (hb hby d2_46) ?_
    show Steps p.tables e below (s₁.setTop (mkF m 48 #[.val (.int p1)] [(.int (6 : Int32)), (.int p1)])) _
    refine XS.icmpYes X0.here hx rfl (pc0 := 48) (pc' := 55) rfl (hb hby d2_48) rfl (feq hc48).2 (by decide) (by decide) ?_
    show Steps p.tables e below (s₁.setTop (mkF m 55 #[.val (.int p1)] [])) _
    refine XS.iloadN X0.here hx rfl (hb hby d2_55) rfl ?_
    show Steps p.tables e below (s₁.setTop (mkF m 56 #[.val (.int p1)] [(.int p1)])) _
    refine XS.bipush X0.here hx rfl (hb hby d2_56) ?_
    show Steps p.tables e below (s₁.setTop (mkF m 58 #[.val (.int p1)] [(.int (7 : Int32)), (.int p1)])) _
    refine XS.icmpYes X0.here hx rfl (pc0 := 58) (pc' := 65) rfl (hb hby d2_58) rfl (feq hc58).2 (by decide) (by decide) ?_
    show Steps p.tables e below (s₁.setTop (mkF m 65 #[.val (.int p1)] [])) _
    refine XS.iloadN X0.here hx rfl (hb hby d2_65) rfl ?_
    show Steps p.tables e below (s₁.setTop (mkF m 66 #[.val (.int p1)] [(.int p1)])) _
    refine XS.bipush X0.here hx rfl (hb hby d2_66) ?_
    show Steps p.tables e below (s₁.setTop (mkF m 68 #[.val (.int p1)] [(.int (8 : Int32)), (.int p1)])) _
    refine XS.icmpYes X0.here hx rfl (pc0 := 68) (pc' := 75) rfl (hb hby d2_68) rfl (feq hc68).2 (by decide) (by decide) ?_
    show Steps p.tables e below (s₁.setTop (mkF m 75 #[.val (.int p1)] [])) _
    refine XS.iloadN X0.here hx rfl (hb hby d2_75) rfl ?_
    show Steps p.tables e below (s₁.setTop (mkF m 76 #[.val (.int p1)] [(.int p1)])) _
    refine XS.bipush X0.here hx rfl (hb hby d2_76) ?_
    show Steps p.tables e below (s₁.setTop (mkF m 78 #[.val (.int p1)] [(.int (9 : Int32)), (.int p1)])) _
    refine XS.icmpYes X0.here hx rfl (pc0 := 78) (pc' := 85) rfl (hb hby d2_78) rfl (feq hc78).2 (by decide) (by decide) ?_
    show Steps p.tables e below (s₁.setTop (mkF m 85 #[.val (.int p1)] [])) _
    refine XS.iloadN X0.here hx rfl (hb hby d2_85) rfl ?_
    show Steps p.tables e below (s₁.setTop (mkF m 86 #[.val (.int p1)] [(.int p1)])) _
    refine XS.bipush X0.here hx rfl (hb hby d2_86) ?_
    show Steps p.tables e below (s₁.setTop (mkF m 88 #[.val (.int p1)] [(.int (11 : Int32)), (.int p1)])) _
    refine XS.icmpYes X0.here hx rfl (pc0 := 88) (pc' := 95) rfl (hb hby d2_88) rfl (feq hc88).2 (by decide) (by decide) ?_
    show Steps p.tables e below (s₁.setTop (mkF m 95 #[.val (.int p1)] [])) _
    refine XS.iloadN X0.here hx rfl (hb hby d2_95) rfl ?_
    show Steps p.tables e below (s₁.setTop (mkF m 96 #[.val (.int p1)] [(.int p1)])) _
    refine XS.bipush X0.here hx rfl (hb hby d2_96) ?_
    show Steps p.tables e below (s₁.setTop (mkF m 98 #[.val (.int p1)] [(.int (12 : Int32)), (.int p1)])) _
    refine XS.icmpYes X0.here hx rfl (pc0 := 98) (pc' := 105) rfl (hb hby d2_98) rfl (feq hc98).2 (by decide) (by decide) ?_
    show Steps p.tables e below (s₁.setTop (mkF m 105 #[.val (.int p1)] [])) _
    refine XS.iloadN X0.here hx rfl (hb hby d2_105) rfl ?_
    show Steps p.tables e below (s₁.setTop (mkF m 106 #[.val (.int p1)] [(.int p1)])) _
    refine XS.bipush X0.here hx rfl (hb hby d2_106) ?_
    show Steps p.tables e below (s₁.setTop (mkF m 108 #[.val (.int p1)] [(.int (13 : Int32)), (.int p1)])) _
    refine XS.icmpYes X0.here hx rfl (pc0 := 108) (pc' := 115) rfl (hb hby d2_108) rfl (feq hc108).2 (by decide) (by decide) ?_
    show Steps p.tables e below (s₁.setTop (mkF m 115 #[.val (.int p1)] [])) _
    refine XS.iloadN X0.here hx rfl (hb hby d2_115) rfl ?_
    show Steps p.tables e below (s₁.setTop (mkF m 116 #[.val (.int p1)] [(.int p1)])) _
    refine XS.bipush X0.here hx rfl (hb hby d2_116) ?_
    show Steps p.tables e below (s₁.setTop (mkF m 118 #[.val (.int p1)] [(.int (14 : Int32)), (.int p1)])) _
    refine XS.icmpYes X0.here hx rfl (pc0 := 118) (pc' := 125) rfl (hb hby d2_118) rfl (feq hc118).2 (by decide) (by decide) ?_
    show Steps p.tables e below (s₁.setTop (mkF m 125 #[.val (.int p1)] [])) _
    refine XS.iloadN X0.here hx rfl (hb hby d2_125) rfl ?_
    show Steps p.tables e below (s₁.setTop (mkF m 126 #[.val (.int p1)] [(.int p1)])) _
    refine XS.bipush X0.here hx rfl (hb hby d2_126) ?_
    show Steps p.tables e below (s₁.setTop (mkF m 128 #[.val (.int p1)] [(.int (15 : Int32)), (.int p1)])) _
    refine XS.icmpYes X0.here hx rfl (pc0 := 128) (pc' := 135) rfl (hb hby d2_128) rfl (feq hc128).2 (by decide) (by decide) ?_
    show Steps p.tables e below (s₁.setTop (mkF m 135 #[.val (.int p1)] [])) _
    refine XS.iloadN X0.here hx rfl (hb hby d2_135) rfl ?_
    show Steps p.tables e below (s₁.setTop (mkF m 136 #[.val (.int p1)] [(.int p1)])) _
    refine XS.bipush X0.here hx rfl (hb hby d2_136) ?_
    show Steps p.tables e below (s₁.setTop (mkF m 138 #[.val (.int p1)] [(.int (100 : Int32)), (.int p1)])) _
    refine XS.icmpYes X0.here hx rfl (pc0 := 138) (pc' := 145) rfl (hb hby d2_138) rfl (feq hc138).2 (by decide) (by decide) ?_
    show Steps p.tables e below (s₁.setTop (mkF m 145 #[.val (.int p1)] [])) _
    refine XS.iloadN X0.here hx rfl (hb hby d2_145) rfl ?_
    show Steps p.tables e below (s₁.setTop (mkF m 146 #[.val (.int p1)] [(.int p1)])) _
    refine XS.bipush X0.here hx rfl (hb hby d2_146) ?_
    show Steps p.tables e below (s₁.setTop (mkF m 148 #[.val (.int p1)] [(.int (101 : Int32)), (.int p1)])) _
    refine XS.icmpYes X0.here hx rfl (pc0 := 148) (pc' := 155) rfl (hb hby d2_148) rfl (feq hc148).2 (by decide) (by decide) ?_
    show Steps p.tables e below (s₁.setTop (mkF m 155 #[.val (.int p1)] [])) _
    refine XS.iloadN X0.here hx rfl (hb hby d2_155) rfl ?_
    show Steps p.tables e below (s₁.setTop (mkF m 156 #[.val (.int p1)] [(.int p1)])) _
    refine XS.bipush X0.here hx rfl (hb hby d2_156) ?_
    show Steps p.tables e below (s₁.setTop (mkF m 158 #[.val (.int p1)] [(.int (-11 : Int32)), (.int p1)])) _
    refine XS.icmpNo X0.here hx rfl (hb hby d2_158) rfl (teq hc158).2 ?_
    show Steps p.tables e below (s₁.setTop (mkF m 161 #[.val (.int p1)] [])) _
    refine st3 _ ?_
    show Steps p.tables e below (T3.setTop (mkF m 164 #[.val (.int p1)] [(.ref w2)])) _
    jvm_step X3.here [X3.here.top, hx, (hb hby d2_164), X3.method', Bd.returns, Value.isRef, FieldType.isReference]
    first | (intro acts; rw [hr _ acts rfl rfl rfl]) | rw [hr _ _ rfl rfl rfl]
    exact Steps.refl _
  · show Q1 (.ref w2) h0 n0 _ T3.heap _
    rw [e3]
    exact ⟨rfl, N0, rfl⟩


set_option maxRecDepth 65536 in
set_option maxHeartbeats 40000000 in
theorem rm2_17 (l : Launch) (Z : State) (a0 : Array Value) (hw : ∀ d ∈ tables_1, d.before a0 Z = true) (ws : List Jvm.Cond) (p1 : Int32) (h0 : Heap) (n0 : Nat) (Z0 : n0 ≤ h0.size) (hc2 : ¬ (p1 = (1 : Int32))) (hc11 : ¬ (p1 = (2 : Int32))) (hc20 : ¬ (p1 = (3 : Int32))) (hc29 : ¬ (p1 = (4 : Int32))) (hc38 : ¬ (p1 = (5 : Int32))) (hc48 : ¬ (p1 = (6 : Int32))) (hc58 : ¬ (p1 = (7 : Int32))) (hc68 : ¬ (p1 = (8 : Int32))) (hc78 : ¬ (p1 = (9 : Int32))) (hc88 : ¬ (p1 = (11 : Int32))) (hc98 : ¬ (p1 = (12 : Int32))) (hc108 : ¬ (p1 = (13 : Int32))) (hc118 : ¬ (p1 = (14 : Int32))) (hc128 : ¬ (p1 = (15 : Int32))) (hc138 : ¬ (p1 = (100 : Int32))) (hc148 : ¬ (p1 = (101 : Int32))) (hc158 : ¬ (p1 = (-11 : Int32))) :
    MetFree l (⟨"com/example/ulmus/ulmus/core/wire/OpCodeOfPinLaw", "expected", "(I)Lcom/example/ulmus/ulmus/core/wire/OpCode;"⟩ : MethodName) (head1 (Jvm.Cond.code (⟨"com/example/ulmus/ulmus/core/wire/OpCodeOfPinLaw", "expected", "(I)Lcom/example/ulmus/ulmus/core/wire/OpCode;"⟩ : MethodName) method_3_code 1 (some (.object "com/example/ulmus/ulmus/core/wire/OpCode")) :: ws) ({ frames := 0, cells := 0, slots := 0, locals := 0 } : Room)) (fun a U => a = #[(.int p1)] ∧ Z.Warmed39 U.vm ∧ U.heap = h0) (fun _ _ _ _ _ => True) (fun _ U o U' => ∃ v L, o = .returned v ∧ Q1 .null h0 n0 v U'.heap L ∧ FrameEnd U o U' L ({ frames := 0, cells := 0, slots := 0, locals := 0 } : Room).cells ({ frames := 0, cells := 0, slots := 0, locals := 0 } : Room).slots) := by
  refine MetFree.of_bodySF (plainFor_of_name pn_2) hisR ?_
  intro p e s m args below meth c s₁ Bd hml0 hP hK
  obtain ⟨rfl, hZ, hh⟩ := hP
  have hx := Bd.exec
  have hby := Bd.bytes
  have hml : c.maxLocals = 1 := hml0
  have hown : s.vm.findClass "com/example/ulmus/ulmus/core/wire/OpCodeOfPinLaw" = some m.cls := findClass_of_methodNamed Bd.named
  have hnm := (name_of_methodNamed Bd.named Bd.method).1
  have X0 : Stand p l e ({ frames := 0, cells := 0, slots := 0, locals := 0 } : Room) s m #[(.int p1)] below meth c s₁ [] 0 0 := Stand.of_body Bd
  have e0 : s₁.heap = h0 := by rw [← hh, Bd.state]; rfl
  have N0 := Fr.nil n0
  have pre0 : ∀ t, Steps p.tables e below (s₁.setTop (mkF m 0 #[.val (.int p1)] [])) t → Steps p.tables e below (s₁.setTop (entryFrame m #[(.int p1)] 1)) t := fun t k => castTop (ef_2 m p1) k

  obtain ⟨fs, hr, hrun, hended, hW, hsame⟩ := X0.leave (v := some .null) (fun h => by rw [Bd.returns] at h; cases h)
  refine ⟨_, _, pre0 _ ?_, hrun, hended, _, _, rfl, ?_, ⟨_, rfl⟩, hW, hsame.mono (by decide) (by decide)⟩
  · show Steps p.tables e below (s₁.setTop (mkF m 0 #[.val (.int p1)] [])) _
    refine XS.iloadN X0.here hx rfl (hb hby d2_0) rfl ?_
    show Steps p.tables e below (s₁.setTop (mkF m 1 #[.val (.int p1)] [(.int p1)])) _
    refine XS.iconst X0.here hx rfl (hb hby d2_1) ?_
    show Steps p.tables e below (s₁.setTop (mkF m 2 #[.val (.int p1)] [(.int (1 : Int32)), (.int p1)])) _
    refine XS.icmpYes X0.here hx rfl (pc0 := 2) (pc' := 9) rfl (hb hby d2_2) rfl (feq hc2).2 (by decide) (by decide) ?_
    show Steps p.tables e below (s₁.setTop (mkF m 9 #[.val (.int p1)] [])) _
    refine XS.iloadN X0.here hx rfl (hb hby d2_9) rfl ?_
    show Steps p.tables e below (s₁.setTop (mkF m 10 #[.val (.int p1)] [(.int p1)])) _
    refine XS.iconst X0.here hx rfl (hb hby d2_10) ?_
    show Steps p.tables e below (s₁.setTop (mkF m 11 #[.val (.int p1)] [(.int (2 : Int32)), (.int p1)])) _
    refine XS.icmpYes X0.here hx rfl (pc0 := 11) (pc' := 18) rfl (hb hby d2_11) rfl (feq hc11).2 (by decide) (by decide) ?_
    show Steps p.tables e below (s₁.setTop (mkF m 18 #[.val (.int p1)] [])) _
    refine XS.iloadN X0.here hx rfl (hb hby d2_18) rfl ?_
    show Steps p.tables e below (s₁.setTop (mkF m 19 #[.val (.int p1)] [(.int p1)])) _
    refine XS.iconst X0.here hx rfl (hb hby d2_19) ?_
    show Steps p.tables e below (s₁.setTop (mkF m 20 #[.val (.int p1)] [(.int (3 : Int32)), (.int p1)])) _
    refine XS.icmpYes X0.here hx rfl (pc0 := 20) (pc' := 27) rfl (hb hby d2_20) rfl (feq hc20).2 (by decide) (by decide) ?_
    show Steps p.tables e below (s₁.setTop (mkF m 27 #[.val (.int p1)] [])) _
    refine XS.iloadN X0.here hx rfl (hb hby d2_27) rfl ?_
    show Steps p.tables e below (s₁.setTop (mkF m 28 #[.val (.int p1)] [(.int p1)])) _
    refine XS.iconst X0.here hx rfl (hb hby d2_28) ?_
    show Steps p.tables e below (s₁.setTop (mkF m 29 #[.val (.int p1)] [(.int (4 : Int32)), (.int p1)])) _
    refine XS.icmpYes X0.here hx rfl (pc0 := 29) (pc' := 36) rfl (hb hby d2_29) rfl (feq hc29).2 (by decide) (by decide) ?_
    show Steps p.tables e below (s₁.setTop (mkF m 36 #[.val (.int p1)] [])) _
    refine XS.iloadN X0.here hx rfl (hb hby d2_36) rfl ?_
    show Steps p.tables e below (s₁.setTop (mkF m 37 #[.val (.int p1)] [(.int p1)])) _
    refine XS.iconst X0.here hx rfl (hb hby d2_37) ?_
    show Steps p.tables e below (s₁.setTop (mkF m 38 #[.val (.int p1)] [(.int (5 : Int32)), (.int p1)])) _
    refine XS.icmpYes X0.here hx rfl (pc0 := 38) (pc' := 45) rfl (hb hby d2_38) rfl (feq hc38).2 (by decide) (by decide) ?_
    show Steps p.tables e below (s₁.setTop (mkF m 45 #[.val (.int p1)] [])) _
    refine XS.iloadN X0.here hx rfl (hb hby d2_45) rfl ?_
    show Steps p.tables e below (s₁.setTop (mkF m 46 #[.val (.int p1)] [(.int p1)])) _
    refine XS.bipush X0.here hx rfl (hb hby d2_46) ?_
    show Steps p.tables e below (s₁.setTop (mkF m 48 #[.val (.int p1)] [(.int (6 : Int32)), (.int p1)])) _
    refine XS.icmpYes X0.here hx rfl (pc0 := 48) (pc' := 55) rfl (hb hby d2_48) rfl (feq hc48).2 (by decide) (by decide) ?_
    show Steps p.tables e below (s₁.setTop (mkF m 55 #[.val (.int p1)] [])) _
    refine XS.iloadN X0.here hx rfl (hb hby d2_55) rfl ?_
    show Steps p.tables e below (s₁.setTop (mkF m 56 #[.val (.int p1)] [(.int p1)])) _
    refine XS.bipush X0.here hx rfl (hb hby d2_56) ?_
    show Steps p.tables e below (s₁.setTop (mkF m 58 #[.val (.int p1)] [(.int (7 : Int32)), (.int p1)])) _
    refine XS.icmpYes X0.here hx rfl (pc0 := 58) (pc' := 65) rfl (hb hby d2_58) rfl (feq hc58).2 (by decide) (by decide) ?_
    show Steps p.tables e below (s₁.setTop (mkF m 65 #[.val (.int p1)] [])) _
    refine XS.iloadN X0.here hx rfl (hb hby d2_65) rfl ?_
    show Steps p.tables e below (s₁.setTop (mkF m 66 #[.val (.int p1)] [(.int p1)])) _
    refine XS.bipush X0.here hx rfl (hb hby d2_66) ?_
    show Steps p.tables e below (s₁.setTop (mkF m 68 #[.val (.int p1)] [(.int (8 : Int32)), (.int p1)])) _
    refine XS.icmpYes X0.here hx rfl (pc0 := 68) (pc' := 75) rfl (hb hby d2_68) rfl (feq hc68).2 (by decide) (by decide) ?_
    show Steps p.tables e below (s₁.setTop (mkF m 75 #[.val (.int p1)] [])) _
    refine XS.iloadN X0.here hx rfl (hb hby d2_75) rfl ?_
    show Steps p.tables e below (s₁.setTop (mkF m 76 #[.val (.int p1)] [(.int p1)])) _
    refine XS.bipush X0.here hx rfl (hb hby d2_76) ?_
    show Steps p.tables e below (s₁.setTop (mkF m 78 #[.val (.int p1)] [(.int (9 : Int32)), (.int p1)])) _
    refine XS.icmpYes X0.here hx rfl (pc0 := 78) (pc' := 85) rfl (hb hby d2_78) rfl (feq hc78).2 (by decide) (by decide) ?_
    show Steps p.tables e below (s₁.setTop (mkF m 85 #[.val (.int p1)] [])) _
    refine XS.iloadN X0.here hx rfl (hb hby d2_85) rfl ?_
    show Steps p.tables e below (s₁.setTop (mkF m 86 #[.val (.int p1)] [(.int p1)])) _
    refine XS.bipush X0.here hx rfl (hb hby d2_86) ?_
    show Steps p.tables e below (s₁.setTop (mkF m 88 #[.val (.int p1)] [(.int (11 : Int32)), (.int p1)])) _
    refine XS.icmpYes X0.here hx rfl (pc0 := 88) (pc' := 95) rfl (hb hby d2_88) rfl (feq hc88).2 (by decide) (by decide) ?_
    show Steps p.tables e below (s₁.setTop (mkF m 95 #[.val (.int p1)] [])) _
    refine XS.iloadN X0.here hx rfl (hb hby d2_95) rfl ?_
    show Steps p.tables e below (s₁.setTop (mkF m 96 #[.val (.int p1)] [(.int p1)])) _
    refine XS.bipush X0.here hx rfl (hb hby d2_96) ?_
    show Steps p.tables e below (s₁.setTop (mkF m 98 #[.val (.int p1)] [(.int (12 : Int32)), (.int p1)])) _
    refine XS.icmpYes X0.here hx rfl (pc0 := 98) (pc' := 105) rfl (hb hby d2_98) rfl (feq hc98).2 (by decide) (by decide) ?_
    show Steps p.tables e below (s₁.setTop (mkF m 105 #[.val (.int p1)] [])) _
    refine XS.iloadN X0.here hx rfl (hb hby d2_105) rfl ?_
    show Steps p.tables e below (s₁.setTop (mkF m 106 #[.val (.int p1)] [(.int p1)])) _
    refine XS.bipush X0.here hx rfl (hb hby d2_106) ?_
    show Steps p.tables e below (s₁.setTop (mkF m 108 #[.val (.int p1)] [(.int (13 : Int32)), (.int p1)])) _
    refine XS.icmpYes X0.here hx rfl (pc0 := 108) (pc' := 115) rfl (hb hby d2_108) rfl (feq hc108).2 (by decide) (by decide) ?_
    show Steps p.tables e below (s₁.setTop (mkF m 115 #[.val (.int p1)] [])) _
    refine XS.iloadN X0.here hx rfl (hb hby d2_115) rfl ?_
    show Steps p.tables e below (s₁.setTop (mkF m 116 #[.val (.int p1)] [(.int p1)])) _
    refine XS.bipush X0.here hx rfl (hb hby d2_116) ?_
    show Steps p.tables e below (s₁.setTop (mkF m 118 #[.val (.int p1)] [(.int (14 : Int32)), (.int p1)])) _
    refine XS.icmpYes X0.here hx rfl (pc0 := 118) (pc' := 125) rfl (hb hby d2_118) rfl (feq hc118).2 (by decide) (by decide) ?_
    show Steps p.tables e below (s₁.setTop (mkF m 125 #[.val (.int p1)] [])) _
    refine XS.iloadN X0.here hx rfl (hb hby d2_125) rfl ?_
    show Steps p.tables e below (s₁.setTop (mkF m 126 #[.val (.int p1)] [(.int p1)])) _
    refine XS.bipush X0.here hx rfl (hb hby d2_126) ?_
    show Steps p.tables e below (s₁.setTop (mkF m 128 #[.val (.int p1)] [(.int (15 : Int32)), (.int p1)])) _
    refine XS.icmpYes X0.here hx rfl (pc0 := 128) (pc' := 135) rfl (hb hby d2_128) rfl (feq hc128).2 (by decide) (by decide) ?_
    show Steps p.tables e below (s₁.setTop (mkF m 135 #[.val (.int p1)] [])) _
    refine XS.iloadN X0.here hx rfl (hb hby d2_135) rfl ?_
    show Steps p.tables e below (s₁.setTop (mkF m 136 #[.val (.int p1)] [(.int p1)])) _
    refine XS.bipush X0.here hx rfl (hb hby d2_136) ?_
    show Steps p.tables e below (s₁.setTop (mkF m 138 #[.val (.int p1)] [(.int (100 : Int32)), (.int p1)])) _
    refine XS.icmpYes X0.here hx rfl (pc0 := 138) (pc' := 145) rfl (hb hby d2_138) rfl (feq hc138).2 (by decide) (by decide) ?_
    show Steps p.tables e below (s₁.setTop (mkF m 145 #[.val (.int p1)] [])) _
    refine XS.iloadN X0.here hx rfl (hb hby d2_145) rfl ?_
    show Steps p.tables e below (s₁.setTop (mkF m 146 #[.val (.int p1)] [(.int p1)])) _
    refine XS.bipush X0.here hx rfl (hb hby d2_146) ?_
    show Steps p.tables e below (s₁.setTop (mkF m 148 #[.val (.int p1)] [(.int (101 : Int32)), (.int p1)])) _
    refine XS.icmpYes X0.here hx rfl (pc0 := 148) (pc' := 155) rfl (hb hby d2_148) rfl (feq hc148).2 (by decide) (by decide) ?_
    show Steps p.tables e below (s₁.setTop (mkF m 155 #[.val (.int p1)] [])) _
    refine XS.iloadN X0.here hx rfl (hb hby d2_155) rfl ?_
    show Steps p.tables e below (s₁.setTop (mkF m 156 #[.val (.int p1)] [(.int p1)])) _
    refine XS.bipush X0.here hx rfl (hb hby d2_156) ?_
    show Steps p.tables e below (s₁.setTop (mkF m 158 #[.val (.int p1)] [(.int (-11 : Int32)), (.int p1)])) _
    refine XS.icmpYes X0.here hx rfl (pc0 := 158) (pc' := 165) rfl (hb hby d2_158) rfl (feq hc158).2 (by decide) (by decide) ?_
    show Steps p.tables e below (s₁.setTop (mkF m 165 #[.val (.int p1)] [])) _
    refine XS.aconstNull X0.here hx rfl (hb hby d2_165) ?_
    show Steps p.tables e below (s₁.setTop (mkF m 166 #[.val (.int p1)] [.null])) _
    jvm_step X0.here [X0.here.top, hx, (hb hby d2_166), X0.method', Bd.returns, Value.isRef, FieldType.isReference]
    first | (intro acts; rw [hr _ acts rfl rfl rfl]) | rw [hr _ _ rfl rfl rfl]
    exact Steps.refl _
  · show Q1 .null h0 n0 _ s₁.heap _
    rw [e0]
    exact ⟨rfl, N0, rfl⟩


theorem rm2 (l : Launch) (Z : State) (a0 : Array Value) (hw : ∀ d ∈ tables_1, d.before a0 Z = true) (ws : List Jvm.Cond) (p1 : Int32) (w2 : Addr) (cl_w2 : Cell) (w : Nat → Addr) (vv : Value) (h0 : Heap) (n0 : Nat) (Z0 : n0 ≤ h0.size) (OF : OpF Z h0 w2 cl_w2 w) (HS : Spc w p1 vv) :
    MetFree l (⟨"com/example/ulmus/ulmus/core/wire/OpCodeOfPinLaw", "expected", "(I)Lcom/example/ulmus/ulmus/core/wire/OpCode;"⟩ : MethodName) (head1 (Jvm.Cond.code (⟨"com/example/ulmus/ulmus/core/wire/OpCodeOfPinLaw", "expected", "(I)Lcom/example/ulmus/ulmus/core/wire/OpCode;"⟩ : MethodName) method_3_code 1 (some (.object "com/example/ulmus/ulmus/core/wire/OpCode")) :: ws) ({ frames := 0, cells := 0, slots := 0, locals := 0 } : Room)) (fun a U => a = #[(.int p1)] ∧ Z.Warmed39 U.vm ∧ U.heap = h0) (fun _ _ _ _ _ => True) (fun _ U o U' => ∃ v L, o = .returned v ∧ Q1 vv h0 n0 v U'.heap L ∧ FrameEnd U o U' L ({ frames := 0, cells := 0, slots := 0, locals := 0 } : Room).cells ({ frames := 0, cells := 0, slots := 0, locals := 0 } : Room).slots) := by
  obtain ⟨-, -, -, -, s0, s1, s2, s3, s4, s5, s6, s7, s8, s9, s10, s11, s12, s13, s14, s15, s16⟩ := OF
  rcases HS with ⟨k, hk, rfl, rfl⟩ | ⟨rfl, hn⟩
  · match k, hk with
    | 0, _ => exact rm2_0 l Z a0 hw ws _ (w 0) h0 n0 Z0 s0 rfl
    | 1, _ => exact rm2_1 l Z a0 hw ws _ (w 1) h0 n0 Z0 s1 (by decide) rfl
    | 2, _ => exact rm2_2 l Z a0 hw ws _ (w 2) h0 n0 Z0 s2 (by decide) (by decide) rfl
    | 3, _ => exact rm2_3 l Z a0 hw ws _ (w 3) h0 n0 Z0 s3 (by decide) (by decide) (by decide) rfl
    | 4, _ => exact rm2_4 l Z a0 hw ws _ (w 4) h0 n0 Z0 s4 (by decide) (by decide) (by decide) (by decide) rfl
    | 5, _ => exact rm2_5 l Z a0 hw ws _ (w 5) h0 n0 Z0 s5 (by decide) (by decide) (by decide) (by decide) (by decide) rfl
    | 6, _ => exact rm2_6 l Z a0 hw ws _ (w 6) h0 n0 Z0 s6 (by decide) (by decide) (by decide) (by decide) (by decide) (by decide) rfl
    | 7, _ => exact rm2_7 l Z a0 hw ws _ (w 7) h0 n0 Z0 s7 (by decide) (by decide) (by decide) (by decide) (by decide) (by decide) (by decide) rfl
    | 8, _ => exact rm2_8 l Z a0 hw ws _ (w 8) h0 n0 Z0 s8 (by decide) (by decide) (by decide) (by decide) (by decide) (by decide) (by decide) (by decide) rfl
    | 9, _ => exact rm2_9 l Z a0 hw ws _ (w 9) h0 n0 Z0 s9 (by decide) (by decide) (by decide) (by decide) (by decide) (by decide) (by decide) (by decide) (by decide) rfl
    | 10, _ => exact rm2_10 l Z a0 hw ws _ (w 10) h0 n0 Z0 s10 (by decide) (by decide) (by decide) (by decide) (by decide) (by decide) (by decide) (by decide) (by decide) (by decide) rfl
    | 11, _ => exact rm2_11 l Z a0 hw ws _ (w 11) h0 n0 Z0 s11 (by decide) (by decide) (by decide) (by decide) (by decide) (by decide) (by decide) (by decide) (by decide) (by decide) (by decide) rfl
    | 12, _ => exact rm2_12 l Z a0 hw ws _ (w 12) h0 n0 Z0 s12 (by decide) (by decide) (by decide) (by decide) (by decide) (by decide) (by decide) (by decide) (by decide) (by decide) (by decide) (by decide) rfl
    | 13, _ => exact rm2_13 l Z a0 hw ws _ (w 13) h0 n0 Z0 s13 (by decide) (by decide) (by decide) (by decide) (by decide) (by decide) (by decide) (by decide) (by decide) (by decide) (by decide) (by decide) (by decide) rfl
    | 14, _ => exact rm2_14 l Z a0 hw ws _ (w 14) h0 n0 Z0 s14 (by decide) (by decide) (by decide) (by decide) (by decide) (by decide) (by decide) (by decide) (by decide) (by decide) (by decide) (by decide) (by decide) (by decide) rfl
    | 15, _ => exact rm2_15 l Z a0 hw ws _ (w 15) h0 n0 Z0 s15 (by decide) (by decide) (by decide) (by decide) (by decide) (by decide) (by decide) (by decide) (by decide) (by decide) (by decide) (by decide) (by decide) (by decide) (by decide) rfl
    | 16, _ => exact rm2_16 l Z a0 hw ws _ (w 16) h0 n0 Z0 s16 (by decide) (by decide) (by decide) (by decide) (by decide) (by decide) (by decide) (by decide) (by decide) (by decide) (by decide) (by decide) (by decide) (by decide) (by decide) (by decide) rfl
    | n + 17, h => exact absurd h (by omega)
  · exact rm2_17 l Z a0 hw ws p1 h0 n0 Z0 (fun q => hn 0 (by decide) q.symm) (fun q => hn 1 (by decide) q.symm) (fun q => hn 2 (by decide) q.symm) (fun q => hn 3 (by decide) q.symm) (fun q => hn 4 (by decide) q.symm) (fun q => hn 5 (by decide) q.symm) (fun q => hn 6 (by decide) q.symm) (fun q => hn 7 (by decide) q.symm) (fun q => hn 8 (by decide) q.symm) (fun q => hn 9 (by decide) q.symm) (fun q => hn 10 (by decide) q.symm) (fun q => hn 11 (by decide) q.symm) (fun q => hn 12 (by decide) q.symm) (fun q => hn 13 (by decide) q.symm) (fun q => hn 14 (by decide) q.symm) (fun q => hn 15 (by decide) q.symm) (fun q => hn 16 (by decide) q.symm)

def Q0 (n0 : Nat) (v : Option Value) (h : Heap) (L : List Loc) : Prop := v = some (.int (1 : Int32)) ∧ Fr n0 L

theorem pn_0 : plainName "com/example/ulmus/ulmus/core/wire/OpCodeOfPinLaw" = true := by first | (simp [plainName, overriddenIn]; done) | decide +kernel
theorem pd_0_0 : parseMethodDescriptor "(I)Lcom/example/ulmus/ulmus/core/wire/OpCode;" = some ⟨[.int], some (.object "com/example/ulmus/ulmus/core/wire/OpCode")⟩ := by decide +kernel
theorem ef_0 (m : MethodId) (x0 : Int32) (x1 : Int32) : entryFrame m #[(.int x0), (.int x1)] maxLocals = mkF m 0 #[.val (.int x0), .val (.int x1), .unset, .unset, .unset] [] := by first | (simp [entryFrame, mkF, argsToLocals, Value.category, maxLocals]; done) | rfl

set_option maxRecDepth 65536 in
set_option maxHeartbeats 40000000 in
theorem rm0_00 (l : Launch) (Z : State) (a0 : Array Value) (hw : ∀ d ∈ tables_1, d.before a0 Z = true) (ws : List Jvm.Cond) (p1 : Int32) (p2 : Int32) (w21 : Int32) (aA : Addr) (cl : Cell) (w : Nat → Addr) (ww : Addr) (h0 : Heap) (n0 : Nat) (Z0 : n0 ≤ h0.size) (OF : OpF Z h0 aA cl w) (HS : Spc w w21 (.ref ww)) (hinb109 : ¬ (p2 &&& (31 : Int32)) < 0 ∧ (p2 &&& (31 : Int32)) < (17 : Int32)) (hval109 : (([.int (1 : Int32), .int (2 : Int32), .int (3 : Int32), .int (4 : Int32), .int (5 : Int32), .int (6 : Int32), .int (7 : Int32), .int (8 : Int32), .int (9 : Int32), .int (11 : Int32), .int (12 : Int32), .int (13 : Int32), .int (14 : Int32), .int (15 : Int32), .int (100 : Int32), .int (101 : Int32), .int (-11 : Int32)] : List Value)).getD ((p2 &&& (31 : Int32))).toNatClampNeg (.int (0 : Int32)) = (.int w21)) (hc104 : (p2 &&& (31 : Int32)) < (17 : Int32)) :
    MetFree l x (head1 (Jvm.Cond.code x code maxLocals ret :: ws) room_1) (fun a U => a = #[(.int p1), (.int p2)] ∧ Z.Warmed39 U.vm ∧ U.heap = h0) (fun _ _ _ _ _ => True) (fun _ U o U' => ∃ v L, o = .returned v ∧ Q0 n0 v U'.heap L ∧ FrameEnd U o U' L room_1.cells room_1.slots) := by
  refine MetFree.of_bodySF (plainFor_of_name pn_0) hisR ?_
  intro p e s m args below meth c s₁ Bd hml0 hP hK
  obtain ⟨rfl, hZ, hh⟩ := hP
  have hx := Bd.exec
  have hby := Bd.bytes
  have hml : c.maxLocals = 5 := hml0
  have hown : s.vm.findClass "com/example/ulmus/ulmus/core/wire/OpCodeOfPinLaw" = some m.cls := findClass_of_methodNamed Bd.named
  have hnm := (name_of_methodNamed Bd.named Bd.method).1
  have X0 : Stand p l e room_1 s m #[(.int p1), (.int p2)] below meth c s₁ [] 0 0 := Stand.of_body Bd
  have e0 : s₁.heap = h0 := by rw [← hh, Bd.state]; rfl
  have N0 := Fr.nil n0
  have pre0 : ∀ t, Steps p.tables e below (s₁.setTop (mkF m 0 #[.val (.int p1), .val (.int p2), .unset, .unset, .unset] [])) t → Steps p.tables e below (s₁.setTop (entryFrame m #[(.int p1), (.int p2)] maxLocals)) t := fun t k => castTop (ef_0 m p1 p2) k
  obtain ⟨T3, h3, k3, X3, e3, E3, A3, st3⟩ := newP X0 hx hZ (hw _ (List.mem_of_getElem? (i := 0) rfl)) e0 (g := (mkF m 2 #[.val (.int p1), .val (.int p2), .unset, .unset, .unset] [(.int (17 : Int32))])) rfl (hb hby at_2) rfl (by decide) (cap := 17) (by decide) (by decide) (by decide) (by decide)
  obtain ⟨b3, g3⟩ : ∃ z, z = h0.size := ⟨_, rfl⟩      -- the fresh array's address
  rw [← g3] at A3 st3
  have V_b3 : Arv Z h3 b3 k3 .int (17 : Int32) [(.int (0 : Int32)), (.int (0 : Int32)), (.int (0 : Int32)), (.int (0 : Int32)), (.int (0 : Int32)), (.int (0 : Int32)), (.int (0 : Int32)), (.int (0 : Int32)), (.int (0 : Int32)), (.int (0 : Int32)), (.int (0 : Int32)), (.int (0 : Int32)), (.int (0 : Int32)), (.int (0 : Int32)), (.int (0 : Int32)), (.int (0 : Int32)), (.int (0 : Int32))] (.int (0 : Int32)) := (Arv.new A3 (by decide)).pad (pad_rep [] (.int (0 : Int32)) 17)
  have g_b3 : n0 ≤ b3 := Nat.le_trans Z0 (Nat.le_of_eq g3.symm)
  have sz_b3 : h0.size ≤ b3 := (Nat.le_trans (Keep.refl h0 []).1 (Nat.le_of_eq g3.symm))
  have K3 : Keep h0 h3 [] := (Keep.refl h0 []).ext E3
  obtain ⟨cl_b3_7, Ar_b3, q_b3, S_b3, N_b3, H_b3, G_b3⟩ := V_b3      -- open the array's fact as it stands now (its cell, kind, length, elements)
  have hin7 : ¬ ((0 : Int32) < 0 ∨ cl_b3_7.slots.size ≤ ((0 : Int32)).toNatClampNeg) := inb_of S_b3 ⟨by decide, by decide⟩
  obtain ⟨T4, h4, X4, e4, W4, st4⟩ := stI X3 hx hZ e3 Ar_b3 (j := (0 : Int32)) hin7 (g := (mkF m 7 #[.val (.int p1), .val (.int p2), .unset, .unset, .unset] [(.int (1 : Int32)), (.int (0 : Int32)), (.ref b3), (.ref b3)])) rfl rfl (hb hby at_7)
  have V_b3_4 := Arv.set Ar_b3 q_b3 S_b3 N_b3 H_b3 G_b3 rfl W4 0 rfl (Nat.le_of_ble_eq_true rfl)      -- the array as it stands now (the place must lie among its first values: Arv.pad with pad_rep lengthens them)
  have K4 : Keep h0 h4 [] := K3.wr W4 (Or.inr sz_b3)
  have N4 := Fr.snoc X4 N0 g_b3
  obtain ⟨cl_b3_11, Ar_b3, q_b3, S_b3, N_b3, H_b3, G_b3⟩ := V_b3_4      -- open the array's fact as it stands now (its cell, kind, length, elements)
  have hin11 : ¬ ((1 : Int32) < 0 ∨ cl_b3_11.slots.size ≤ ((1 : Int32)).toNatClampNeg) := inb_of S_b3 ⟨by decide, by decide⟩
  obtain ⟨T5, h5, X5, e5, W5, st5⟩ := stI X4 hx hZ e4 Ar_b3 (j := (1 : Int32)) hin11 (g := (mkF m 11 #[.val (.int p1), .val (.int p2), .unset, .unset, .unset] [(.int (2 : Int32)), (.int (1 : Int32)), (.ref b3), (.ref b3)])) rfl rfl (hb hby at_11)
  have V_b3_5 := Arv.set Ar_b3 q_b3 S_b3 N_b3 H_b3 G_b3 rfl W5 1 rfl (Nat.le_of_ble_eq_true rfl)      -- the array as it stands now (the place must lie among its first values: Arv.pad with pad_rep lengthens them)
  have K5 : Keep h0 h5 [] := K4.wr W5 (Or.inr sz_b3)
  have N5 := Fr.snoc X5 N4 g_b3
  obtain ⟨cl_b3_15, Ar_b3, q_b3, S_b3, N_b3, H_b3, G_b3⟩ := V_b3_5      -- open the array's fact as it stands now (its cell, kind, length, elements)
  have hin15 : ¬ ((2 : Int32) < 0 ∨ cl_b3_15.slots.size ≤ ((2 : Int32)).toNatClampNeg) := inb_of S_b3 ⟨by decide, by decide⟩
  obtain ⟨T6, h6, X6, e6, W6, st6⟩ := stI X5 hx hZ e5 Ar_b3 (j := (2 : Int32)) hin15 (g := (mkF m 15 #[.val (.int p1), .val (.int p2), .unset, .unset, .unset] [(.int (3 : Int32)), (.int (2 : Int32)), (.ref b3), (.ref b3)])) rfl rfl (hb hby at_15)
  have V_b3_6 := Arv.set Ar_b3 q_b3 S_b3 N_b3 H_b3 G_b3 rfl W6 2 rfl (Nat.le_of_ble_eq_true rfl)      -- the array as it stands now (the place must lie among its first values: Arv.pad with pad_rep lengthens them)
  have K6 : Keep h0 h6 [] := K5.wr W6 (Or.inr sz_b3)
  have N6 := Fr.snoc X6 N5 g_b3
  obtain ⟨cl_b3_19, Ar_b3, q_b3, S_b3, N_b3, H_b3, G_b3⟩ := V_b3_6      -- open the array's fact as it stands now (its cell, kind, length, elements)
  have hin19 : ¬ ((3 : Int32) < 0 ∨ cl_b3_19.slots.size ≤ ((3 : Int32)).toNatClampNeg) := inb_of S_b3 ⟨by decide, by decide⟩
  obtain ⟨T7, h7, X7, e7, W7, st7⟩ := stI X6 hx hZ e6 Ar_b3 (j := (3 : Int32)) hin19 (g := (mkF m 19 #[.val (.int p1), .val (.int p2), .unset, .unset, .unset] [(.int (4 : Int32)), (.int (3 : Int32)), (.ref b3), (.ref b3)])) rfl rfl (hb hby at_19)
  have V_b3_7 := Arv.set Ar_b3 q_b3 S_b3 N_b3 H_b3 G_b3 rfl W7 3 rfl (Nat.le_of_ble_eq_true rfl)      -- the array as it stands now (the place must lie among its first values: Arv.pad with pad_rep lengthens them)
  have K7 : Keep h0 h7 [] := K6.wr W7 (Or.inr sz_b3)
  have N7 := Fr.snoc X7 N6 g_b3
  obtain ⟨cl_b3_23, Ar_b3, q_b3, S_b3, N_b3, H_b3, G_b3⟩ := V_b3_7      -- open the array's fact as it stands now (its cell, kind, length, elements)
  have hin23 : ¬ ((4 : Int32) < 0 ∨ cl_b3_23.slots.size ≤ ((4 : Int32)).toNatClampNeg) := inb_of S_b3 ⟨by decide, by decide⟩
  obtain ⟨T8, h8, X8, e8, W8, st8⟩ := stI X7 hx hZ e7 Ar_b3 (j := (4 : Int32)) hin23 (g := (mkF m 23 #[.val (.int p1), .val (.int p2), .unset, .unset, .unset] [(.int (5 : Int32)), (.int (4 : Int32)), (.ref b3), (.ref b3)])) rfl rfl (hb hby at_23)
  have V_b3_8 := Arv.set Ar_b3 q_b3 S_b3 N_b3 H_b3 G_b3 rfl W8 4 rfl (Nat.le_of_ble_eq_true rfl)      -- the array as it stands now (the place must lie among its first values: Arv.pad with pad_rep lengthens them)
  have K8 : Keep h0 h8 [] := K7.wr W8 (Or.inr sz_b3)
  have N8 := Fr.snoc X8 N7 g_b3
  obtain ⟨cl_b3_28, Ar_b3, q_b3, S_b3, N_b3, H_b3, G_b3⟩ := V_b3_8      -- open the array's fact as it stands now (its cell, kind, length, elements)
  have hin28 : ¬ ((5 : Int32) < 0 ∨ cl_b3_28.slots.size ≤ ((5 : Int32)).toNatClampNeg) := inb_of S_b3 ⟨by decide, by decide⟩
  obtain ⟨T9, h9, X9, e9, W9, st9⟩ := stI X8 hx hZ e8 Ar_b3 (j := (5 : Int32)) hin28 (g := (mkF m 28 #[.val (.int p1), .val (.int p2), .unset, .unset, .unset] [(.int (6 : Int32)), (.int (5 : Int32)), (.ref b3), (.ref b3)])) rfl rfl (hb hby at_28)
  have V_b3_9 := Arv.set Ar_b3 q_b3 S_b3 N_b3 H_b3 G_b3 rfl W9 5 rfl (Nat.le_of_ble_eq_true rfl)      -- the array as it stands now (the place must lie among its first values: Arv.pad with pad_rep lengthens them)
  have K9 : Keep h0 h9 [] := K8.wr W9 (Or.inr sz_b3)
  have N9 := Fr.snoc X9 N8 g_b3
  obtain ⟨cl_b3_34, Ar_b3, q_b3, S_b3, N_b3, H_b3, G_b3⟩ := V_b3_9      -- open the array's fact as it stands now (its cell, kind, length, elements)
  have hin34 : ¬ ((6 : Int32) < 0 ∨ cl_b3_34.slots.size ≤ ((6 : Int32)).toNatClampNeg) := inb_of S_b3 ⟨by decide, by decide⟩
  obtain ⟨T10, h10, X10, e10, W10, st10⟩ := stI X9 hx hZ e9 Ar_b3 (j := (6 : Int32)) hin34 (g := (mkF m 34 #[.val (.int p1), .val (.int p2), .unset, .unset, .unset] [(.int (7 : Int32)), (.int (6 : Int32)), (.ref b3), (.ref b3)])) rfl rfl (hb hby at_34)
  have V_b3_10 := Arv.set Ar_b3 q_b3 S_b3 N_b3 H_b3 G_b3 rfl W10 6 rfl (Nat.le_of_ble_eq_true rfl)      -- the array as it stands now (the place must lie among its first values: Arv.pad with pad_rep lengthens them)
  have K10 : Keep h0 h10 [] := K9.wr W10 (Or.inr sz_b3)
  have N10 := Fr.snoc X10 N9 g_b3
  obtain ⟨cl_b3_40, Ar_b3, q_b3, S_b3, N_b3, H_b3, G_b3⟩ := V_b3_10      -- open the array's fact as it stands now (its cell, kind, length, elements)
  have hin40 : ¬ ((7 : Int32) < 0 ∨ cl_b3_40.slots.size ≤ ((7 : Int32)).toNatClampNeg) := inb_of S_b3 ⟨by decide, by decide⟩
  obtain ⟨T11, h11, X11, e11, W11, st11⟩ := stI X10 hx hZ e10 Ar_b3 (j := (7 : Int32)) hin40 (g := (mkF m 40 #[.val (.int p1), .val (.int p2), .unset, .unset, .unset] [(.int (8 : Int32)), (.int (7 : Int32)), (.ref b3), (.ref b3)])) rfl rfl (hb hby at_40)
  have V_b3_11 := Arv.set Ar_b3 q_b3 S_b3 N_b3 H_b3 G_b3 rfl W11 7 rfl (Nat.le_of_ble_eq_true rfl)      -- the array as it stands now (the place must lie among its first values: Arv.pad with pad_rep lengthens them)
  have K11 : Keep h0 h11 [] := K10.wr W11 (Or.inr sz_b3)
  have N11 := Fr.snoc X11 N10 g_b3
  obtain ⟨cl_b3_46, Ar_b3, q_b3, S_b3, N_b3, H_b3, G_b3⟩ := V_b3_11      -- open the array's fact as it stands now (its cell, kind, length, elements)
  have hin46 : ¬ ((8 : Int32) < 0 ∨ cl_b3_46.slots.size ≤ ((8 : Int32)).toNatClampNeg) := inb_of S_b3 ⟨by decide, by decide⟩
  obtain ⟨T12, h12, X12, e12, W12, st12⟩ := stI X11 hx hZ e11 Ar_b3 (j := (8 : Int32)) hin46 (g := (mkF m 46 #[.val (.int p1), .val (.int p2), .unset, .unset, .unset] [(.int (9 : Int32)), (.int (8 : Int32)), (.ref b3), (.ref b3)])) rfl rfl (hb hby at_46)
  have V_b3_12 := Arv.set Ar_b3 q_b3 S_b3 N_b3 H_b3 G_b3 rfl W12 8 rfl (Nat.le_of_ble_eq_true rfl)      -- the array as it stands now (the place must lie among its first values: Arv.pad with pad_rep lengthens them)
  have K12 : Keep h0 h12 [] := K11.wr W12 (Or.inr sz_b3)
  have N12 := Fr.snoc X12 N11 g_b3
  obtain ⟨cl_b3_52, Ar_b3, q_b3, S_b3, N_b3, H_b3, G_b3⟩ := V_b3_12      -- open the array's fact as it stands now (its cell, kind, length, elements)
  have hin52 : ¬ ((9 : Int32) < 0 ∨ cl_b3_52.slots.size ≤ ((9 : Int32)).toNatClampNeg) := inb_of S_b3 ⟨by decide, by decide⟩
  obtain ⟨T13, h13, X13, e13, W13, st13⟩ := stI X12 hx hZ e12 Ar_b3 (j := (9 : Int32)) hin52 (g := (mkF m 52 #[.val (.int p1), .val (.int p2), .unset, .unset, .unset] [(.int (11 : Int32)), (.int (9 : Int32)), (.ref b3), (.ref b3)])) rfl rfl (hb hby at_52)
  have V_b3_13 := Arv.set Ar_b3 q_b3 S_b3 N_b3 H_b3 G_b3 rfl W13 9 rfl (Nat.le_of_ble_eq_true rfl)      -- the array as it stands now (the place must lie among its first values: Arv.pad with pad_rep lengthens them)
  have K13 : Keep h0 h13 [] := K12.wr W13 (Or.inr sz_b3)
  have N13 := Fr.snoc X13 N12 g_b3
  obtain ⟨cl_b3_58, Ar_b3, q_b3, S_b3, N_b3, H_b3, G_b3⟩ := V_b3_13      -- open the array's fact as it stands now (its cell, kind, length, elements)
  have hin58 : ¬ ((10 : Int32) < 0 ∨ cl_b3_58.slots.size ≤ ((10 : Int32)).toNatClampNeg) := inb_of S_b3 ⟨by decide, by decide⟩
  obtain ⟨T14, h14, X14, e14, W14, st14⟩ := stI X13 hx hZ e13 Ar_b3 (j := (10 : Int32)) hin58 (g := (mkF m 58 #[.val (.int p1), .val (.int p2), .unset, .unset, .unset] [(.int (12 : Int32)), (.int (10 : Int32)), (.ref b3), (.ref b3)])) rfl rfl (hb hby at_58)
  have V_b3_14 := Arv.set Ar_b3 q_b3 S_b3 N_b3 H_b3 G_b3 rfl W14 10 rfl (Nat.le_of_ble_eq_true rfl)      -- the array as it stands now (the place must lie among its first values: Arv.pad with pad_rep lengthens them)
  have K14 : Keep h0 h14 [] := K13.wr W14 (Or.inr sz_b3)
  have N14 := Fr.snoc X14 N13 g_b3
  obtain ⟨cl_b3_64, Ar_b3, q_b3, S_b3, N_b3, H_b3, G_b3⟩ := V_b3_14      -- open the array's fact as it stands now (its cell, kind, length, elements)
  have hin64 : ¬ ((11 : Int32) < 0 ∨ cl_b3_64.slots.size ≤ ((11 : Int32)).toNatClampNeg) := inb_of S_b3 ⟨by decide, by decide⟩
  obtain ⟨T15, h15, X15, e15, W15, st15⟩ := stI X14 hx hZ e14 Ar_b3 (j := (11 : Int32)) hin64 (g := (mkF m 64 #[.val (.int p1), .val (.int p2), .unset, .unset, .unset] [(.int (13 : Int32)), (.int (11 : Int32)), (.ref b3), (.ref b3)])) rfl rfl (hb hby at_64)
  have V_b3_15 := Arv.set Ar_b3 q_b3 S_b3 N_b3 H_b3 G_b3 rfl W15 11 rfl (Nat.le_of_ble_eq_true rfl)      -- the array as it stands now (the place must lie among its first values: Arv.pad with pad_rep lengthens them)
  have K15 : Keep h0 h15 [] := K14.wr W15 (Or.inr sz_b3)
  have N15 := Fr.snoc X15 N14 g_b3
  obtain ⟨cl_b3_70, Ar_b3, q_b3, S_b3, N_b3, H_b3, G_b3⟩ := V_b3_15      -- open the array's fact as it stands now (its cell, kind, length, elements)
  have hin70 : ¬ ((12 : Int32) < 0 ∨ cl_b3_70.slots.size ≤ ((12 : Int32)).toNatClampNeg) := inb_of S_b3 ⟨by decide, by decide⟩
  obtain ⟨T16, h16, X16, e16, W16, st16⟩ := stI X15 hx hZ e15 Ar_b3 (j := (12 : Int32)) hin70 (g := (mkF m 70 #[.val (.int p1), .val (.int p2), .unset, .unset, .unset] [(.int (14 : Int32)), (.int (12 : Int32)), (.ref b3), (.ref b3)])) rfl rfl (hb hby at_70)
  have V_b3_16 := Arv.set Ar_b3 q_b3 S_b3 N_b3 H_b3 G_b3 rfl W16 12 rfl (Nat.le_of_ble_eq_true rfl)      -- the array as it stands now (the place must lie among its first values: Arv.pad with pad_rep lengthens them)
  have K16 : Keep h0 h16 [] := K15.wr W16 (Or.inr sz_b3)
  have N16 := Fr.snoc X16 N15 g_b3
  obtain ⟨cl_b3_76, Ar_b3, q_b3, S_b3, N_b3, H_b3, G_b3⟩ := V_b3_16      -- open the array's fact as it stands now (its cell, kind, length, elements)
  have hin76 : ¬ ((13 : Int32) < 0 ∨ cl_b3_76.slots.size ≤ ((13 : Int32)).toNatClampNeg) := inb_of S_b3 ⟨by decide, by decide⟩
  obtain ⟨T17, h17, X17, e17, W17, st17⟩ := stI X16 hx hZ e16 Ar_b3 (j := (13 : Int32)) hin76 (g := (mkF m 76 #[.val (.int p1), .val (.int p2), .unset, .unset, .unset] [(.int (15 : Int32)), (.int (13 : Int32)), (.ref b3), (.ref b3)])) rfl rfl (hb hby at_76)
  have V_b3_17 := Arv.set Ar_b3 q_b3 S_b3 N_b3 H_b3 G_b3 rfl W17 13 rfl (Nat.le_of_ble_eq_true rfl)      -- the array as it stands now (the place must lie among its first values: Arv.pad with pad_rep lengthens them)
  have K17 : Keep h0 h17 [] := K16.wr W17 (Or.inr sz_b3)
  have N17 := Fr.snoc X17 N16 g_b3
  obtain ⟨cl_b3_82, Ar_b3, q_b3, S_b3, N_b3, H_b3, G_b3⟩ := V_b3_17      -- open the array's fact as it stands now (its cell, kind, length, elements)
  have hin82 : ¬ ((14 : Int32) < 0 ∨ cl_b3_82.slots.size ≤ ((14 : Int32)).toNatClampNeg) := inb_of S_b3 ⟨by decide, by decide⟩
  obtain ⟨T18, h18, X18, e18, W18, st18⟩ := stI X17 hx hZ e17 Ar_b3 (j := (14 : Int32)) hin82 (g := (mkF m 82 #[.val (.int p1), .val (.int p2), .unset, .unset, .unset] [(.int (100 : Int32)), (.int (14 : Int32)), (.ref b3), (.ref b3)])) rfl rfl (hb hby at_82)
  have V_b3_18 := Arv.set Ar_b3 q_b3 S_b3 N_b3 H_b3 G_b3 rfl W18 14 rfl (Nat.le_of_ble_eq_true rfl)      -- the array as it stands now (the place must lie among its first values: Arv.pad with pad_rep lengthens them)
  have K18 : Keep h0 h18 [] := K17.wr W18 (Or.inr sz_b3)
  have N18 := Fr.snoc X18 N17 g_b3
  obtain ⟨cl_b3_88, Ar_b3, q_b3, S_b3, N_b3, H_b3, G_b3⟩ := V_b3_18      -- open the array's fact as it stands now (its cell, kind, length, elements)
  have hin88 : ¬ ((15 : Int32) < 0 ∨ cl_b3_88.slots.size ≤ ((15 : Int32)).toNatClampNeg) := inb_of S_b3 ⟨by decide, by decide⟩
  obtain ⟨T19, h19, X19, e19, W19, st19⟩ := stI X18 hx hZ e18 Ar_b3 (j := (15 : Int32)) hin88 (g := (mkF m 88 #[.val (.int p1), .val (.int p2), .unset, .unset, .unset] [(.int (101 : Int32)), (.int (15 : Int32)), (.ref b3), (.ref b3)])) rfl rfl (hb hby at_88)
  have V_b3_19 := Arv.set Ar_b3 q_b3 S_b3 N_b3 H_b3 G_b3 rfl W19 15 rfl (Nat.le_of_ble_eq_true rfl)      -- the array as it stands now (the place must lie among its first values: Arv.pad with pad_rep lengthens them)
  have K19 : Keep h0 h19 [] := K18.wr W19 (Or.inr sz_b3)
  have N19 := Fr.snoc X19 N18 g_b3
  obtain ⟨cl_b3_94, Ar_b3, q_b3, S_b3, N_b3, H_b3, G_b3⟩ := V_b3_19      -- open the array's fact as it stands now (its cell, kind, length, elements)
  have hin94 : ¬ ((16 : Int32) < 0 ∨ cl_b3_94.slots.size ≤ ((16 : Int32)).toNatClampNeg) := inb_of S_b3 ⟨by decide, by decide⟩
  obtain ⟨T20, h20, X20, e20, W20, st20⟩ := stI X19 hx hZ e19 Ar_b3 (j := (16 : Int32)) hin94 (g := (mkF m 94 #[.val (.int p1), .val (.int p2), .unset, .unset, .unset] [(.int (-11 : Int32)), (.int (16 : Int32)), (.ref b3), (.ref b3)])) rfl rfl (hb hby at_94)
  have V_b3_20 := Arv.set Ar_b3 q_b3 S_b3 N_b3 H_b3 G_b3 rfl W20 16 rfl (Nat.le_of_ble_eq_true rfl)      -- the array as it stands now (the place must lie among its first values: Arv.pad with pad_rep lengthens them)
  have K20 : Keep h0 h20 [] := K19.wr W20 (Or.inr sz_b3)
  have N20 := Fr.snoc X20 N19 g_b3
  obtain ⟨cl_b3_109, Ar_b3_109, q_b3_109, S_b3_109, N_b3_109, H_b3_109, G_b3_109⟩ := V_b3_20
  have hin109 : ¬ ((p2 &&& (31 : Int32)) < 0 ∨ cl_b3_109.slots.size ≤ ((p2 &&& (31 : Int32))).toNatClampNeg) := inb_of S_b3_109 hinb109
  have hat109 : cl_b3_109.slots[((p2 &&& (31 : Int32))).toNatClampNeg]? = some (.int w21) := H_b3_109.at hin109 hval109
  have EK : Ext h0 h20 := ⟨K20.1, fun a c q => K20.2.1 a c q nin0⟩
  -- pc 140: com/example/ulmus/ulmus/core/wire/OpCode.of by its contract rm1
  obtain ⟨_, _, ⟨T22, L22, k22, n22⟩, -, X22, ⟨Lc22, hQ22, l22, y22, z22⟩, st22⟩ := Jvm.LawKit.callS X20 hx (y := (⟨"com/example/ulmus/ulmus/core/wire/OpCode", "of", "(I)Lcom/example/ulmus/ulmus/core/wire/OpCode;"⟩ : MethodName)) hown (mvT hZ (hw _ (List.mem_of_getElem? (i := 1) rfl))) (mvT hZ (hw _ (List.mem_of_getElem? (i := 2) rfl))) (mvT hZ (hw _ (List.mem_of_getElem? (i := 3) rfl))) (mvT hZ (hw _ (List.mem_of_getElem? (i := 4) rfl))) (by decide) (backOf (W := 0) (rm1 l Z a0 hw [] w21 aA cl w (.ref ww) h20 n0 (Nat.le_trans (Nat.le_trans (Nat.le_trans (Nat.le_trans (Nat.le_trans (Nat.le_trans (Nat.le_trans (Nat.le_trans (Nat.le_trans (Nat.le_trans (Nat.le_trans (Nat.le_trans (Nat.le_trans (Nat.le_trans (Nat.le_trans (Nat.le_trans (Nat.le_trans (Nat.le_trans Z0 E3.1) (Keep.of_wr W4).1) (Keep.of_wr W5).1) (Keep.of_wr W6).1) (Keep.of_wr W7).1) (Keep.of_wr W8).1) (Keep.of_wr W9).1) (Keep.of_wr W10).1) (Keep.of_wr W11).1) (Keep.of_wr W12).1) (Keep.of_wr W13).1) (Keep.of_wr W14).1) (Keep.of_wr W15).1) (Keep.of_wr W16).1) (Keep.of_wr W17).1) (Keep.of_wr W18).1) (Keep.of_wr W19).1) (Keep.of_wr W20).1) (OF.ext EK) HS) hZ (hw _ (List.mem_of_getElem? (i := 4) rfl)) (hw _ (List.mem_of_getElem? (i := 3) rfl)) (by decide) (by decide)) (g := (mkF m 140 #[.val (.int p1), .val (.int p2), .val (.ref b3), .val (.int (p2 &&& (31 : Int32))), .val (.int w21)] [(.int w21)])) rfl (by rw [hml]; rfl) (argsL := [(.int w21)]) (rest := []) (lenOf pd_0_0 rfl) rfl (by show 2 * 0 + _ ≤ _; exact Nat.le_of_eq rfl) (hb hby at_140) (fun _ _ => ⟨rfl, e20, (by decide : 1 + 0 ≤ _), (by decide : 17 + 0 ≤ _)⟩)
  dsimp only [Pt.U, Pt.locs, Pt.cells, Pt.slots] at X22 l22 y22 z22 st22 hQ22
  subst l22 y22 z22
  obtain ⟨rfl, N22q, eq22⟩ := hQ22
  have N22 := Fr.app N20 N22q
  -- pc 145: com/example/ulmus/ulmus/core/wire/OpCodeOfPinLaw.expected by its contract rm2
  obtain ⟨_, _, ⟨T23, L23, k23, n23⟩, -, X23, ⟨Lc23, hQ23, l23, y23, z23⟩, st23⟩ := Jvm.LawKit.callS X22 hx (y := (⟨"com/example/ulmus/ulmus/core/wire/OpCodeOfPinLaw", "expected", "(I)Lcom/example/ulmus/ulmus/core/wire/OpCode;"⟩ : MethodName)) hown (mvT hZ (hw _ (List.mem_of_getElem? (i := 13) rfl))) (mvT hZ (hw _ (List.mem_of_getElem? (i := 14) rfl))) (mvT hZ (hw _ (List.mem_of_getElem? (i := 15) rfl))) (mvT hZ (hw _ (List.mem_of_getElem? (i := 16) rfl))) (by decide) (backOf (W := 1) (rm2 l Z a0 hw [] w21 aA cl w (.ref ww) h20 n0 (Nat.le_trans (Nat.le_trans (Nat.le_trans (Nat.le_trans (Nat.le_trans (Nat.le_trans (Nat.le_trans (Nat.le_trans (Nat.le_trans (Nat.le_trans (Nat.le_trans (Nat.le_trans (Nat.le_trans (Nat.le_trans (Nat.le_trans (Nat.le_trans (Nat.le_trans (Nat.le_trans Z0 E3.1) (Keep.of_wr W4).1) (Keep.of_wr W5).1) (Keep.of_wr W6).1) (Keep.of_wr W7).1) (Keep.of_wr W8).1) (Keep.of_wr W9).1) (Keep.of_wr W10).1) (Keep.of_wr W11).1) (Keep.of_wr W12).1) (Keep.of_wr W13).1) (Keep.of_wr W14).1) (Keep.of_wr W15).1) (Keep.of_wr W16).1) (Keep.of_wr W17).1) (Keep.of_wr W18).1) (Keep.of_wr W19).1) (Keep.of_wr W20).1) (OF.ext EK) HS) hZ (hw _ (List.mem_of_getElem? (i := 16) rfl)) (hw _ (List.mem_of_getElem? (i := 15) rfl)) (by decide) (by decide)) (g := (mkF m 145 #[.val (.int p1), .val (.int p2), .val (.ref b3), .val (.int (p2 &&& (31 : Int32))), .val (.int w21)] [(.int w21), (.ref ww)])) rfl (by rw [hml]; rfl) (argsL := [(.int w21)]) (rest := [(.ref ww)]) (lenOf pd_0_0 rfl) rfl (by show 2 * 0 + _ ≤ _; exact Nat.le_of_eq rfl) (hb hby at_145) (fun _ _ => ⟨rfl, eq22, (by decide : 1 + 0 ≤ _), (by decide : 17 + 0 ≤ _)⟩)
  dsimp only [Pt.U, Pt.locs, Pt.cells, Pt.slots] at X23 l23 y23 z23 st23 hQ23
  subst l23 y23 z23
  obtain ⟨rfl, N23q, eq23⟩ := hQ23
  have N23 := Fr.app N22 N23q
  obtain ⟨fs, hr, hrun, hended, hW, hsame⟩ := X23.leave (v := some (.int (1 : Int32))) (fun h => by rw [Bd.returns] at h; cases h)
  refine ⟨_, _, pre0 _ ?_, hrun, hended, _, _, rfl, ?_, ⟨_, rfl⟩, hW, hsame.mono (by decide) (by decide)⟩
  · show Steps p.tables e below (s₁.setTop (mkF m 0 #[.val (.int p1), .val (.int p2), .unset, .unset, .unset] [])) _
    refine XS.bipush X0.here hx rfl (hb hby at_0) ?_
    show Steps p.tables e below (s₁.setTop (mkF m 2 #[.val (.int p1), .val (.int p2), .unset, .unset, .unset] [(.int (17 : Int32))])) _
    refine st3 _ ?_
    show Steps p.tables e below (T3.setTop (mkF m 4 #[.val (.int p1), .val (.int p2), .unset, .unset, .unset] [(.ref b3)])) _
    refine XS.dup X3.here hx rfl (hb hby at_4) rfl rfl ?_
    show Steps p.tables e below (T3.setTop (mkF m 5 #[.val (.int p1), .val (.int p2), .unset, .unset, .unset] [(.ref b3), (.ref b3)])) _
    refine XS.iconst X3.here hx rfl (hb hby at_5) ?_
    show Steps p.tables e below (T3.setTop (mkF m 6 #[.val (.int p1), .val (.int p2), .unset, .unset, .unset] [(.int (0 : Int32)), (.ref b3), (.ref b3)])) _
    refine XS.iconst X3.here hx rfl (hb hby at_6) ?_
    show Steps p.tables e below (T3.setTop (mkF m 7 #[.val (.int p1), .val (.int p2), .unset, .unset, .unset] [(.int (1 : Int32)), (.int (0 : Int32)), (.ref b3), (.ref b3)])) _
    refine st4 _ ?_
    show Steps p.tables e below (T4.setTop (mkF m 8 #[.val (.int p1), .val (.int p2), .unset, .unset, .unset] [(.ref b3)])) _
    refine XS.dup X4.here hx rfl (hb hby at_8) rfl rfl ?_
    show Steps p.tables e below (T4.setTop (mkF m 9 #[.val (.int p1), .val (.int p2), .unset, .unset, .unset] [(.ref b3), (.ref b3)])) _
    refine XS.iconst X4.here hx rfl (hb hby at_9) ?_
    show Steps p.tables e below (T4.setTop (mkF m 10 #[.val (.int p1), .val (.int p2), .unset, .unset, .unset] [(.int (1 : Int32)), (.ref b3), (.ref b3)])) _
    refine XS.iconst X4.here hx rfl (hb hby at_10) ?_
    show Steps p.tables e below (T4.setTop (mkF m 11 #[.val (.int p1), .val (.int p2), .unset, .unset, .unset] [(.int (2 : Int32)), (.int (1 : Int32)), (.ref b3), (.ref b3)])) _
    refine st5 _ ?_
    show Steps p.tables e below (T5.setTop (mkF m 12 #[.val (.int p1), .val (.int p2), .unset, .unset, .unset] [(.ref b3)])) _
    refine XS.dup X5.here hx rfl (hb hby at_12) rfl rfl ?_
    show Steps p.tables e below (T5.setTop (mkF m 13 #[.val (.int p1), .val (.int p2), .unset, .unset, .unset] [(.ref b3), (.ref b3)])) _
    refine XS.iconst X5.here hx rfl (hb hby at_13) ?_
    show Steps p.tables e below (T5.setTop (mkF m 14 #[.val (.int p1), .val (.int p2), .unset, .unset, .unset] [(.int (2 : Int32)), (.ref b3), (.ref b3)])) _
    refine XS.iconst X5.here hx rfl (hb hby at_14) ?_
    show Steps p.tables e below (T5.setTop (mkF m 15 #[.val (.int p1), .val (.int p2), .unset, .unset, .unset] [(.int (3 : Int32)), (.int (2 : Int32)), (.ref b3), (.ref b3)])) _
    refine st6 _ ?_
    show Steps p.tables e below (T6.setTop (mkF m 16 #[.val (.int p1), .val (.int p2), .unset, .unset, .unset] [(.ref b3)])) _
    refine XS.dup X6.here hx rfl (hb hby at_16) rfl rfl ?_
    show Steps p.tables e below (T6.setTop (mkF m 17 #[.val (.int p1), .val (.int p2), .unset, .unset, .unset] [(.ref b3), (.ref b3)])) _
    refine XS.iconst X6.here hx rfl (hb hby at_17) ?_
    show Steps p.tables e below (T6.setTop (mkF m 18 #[.val (.int p1), .val (.int p2), .unset, .unset, .unset] [(.int (3 : Int32)), (.ref b3), (.ref b3)])) _
    refine XS.iconst X6.here hx rfl (hb hby at_18) ?_
    show Steps p.tables e below (T6.setTop (mkF m 19 #[.val (.int p1), .val (.int p2), .unset, .unset, .unset] [(.int (4 : Int32)), (.int (3 : Int32)), (.ref b3), (.ref b3)])) _
    refine st7 _ ?_
    show Steps p.tables e below (T7.setTop (mkF m 20 #[.val (.int p1), .val (.int p2), .unset, .unset, .unset] [(.ref b3)])) _
    refine XS.dup X7.here hx rfl (hb hby at_20) rfl rfl ?_
    show Steps p.tables e below (T7.setTop (mkF m 21 #[.val (.int p1), .val (.int p2), .unset, .unset, .unset] [(.ref b3), (.ref b3)])) _
    refine XS.iconst X7.here hx rfl (hb hby at_21) ?_
    show Steps p.tables e below (T7.setTop (mkF m 22 #[.val (.int p1), .val (.int p2), .unset, .unset, .unset] [(.int (4 : Int32)), (.ref b3), (.ref b3)])) _
    refine XS.iconst X7.here hx rfl (hb hby at_22) ?_
    show Steps p.tables e below (T7.setTop (mkF m 23 #[.val (.int p1), .val (.int p2), .unset, .unset, .unset] [(.int (5 : Int32)), (.int (4 : Int32)), (.ref b3), (.ref b3)])) _
    refine st8 _ ?_
    show Steps p.tables e below (T8.setTop (mkF m 24 #[.val (.int p1), .val (.int p2), .unset, .unset, .unset] [(.ref b3)])) _
    refine XS.dup X8.here hx rfl (hb hby at_24) rfl rfl ?_
    show Steps p.tables e below (T8.setTop (mkF m 25 #[.val (.int p1), .val (.int p2), .unset, .unset, .unset] [(.ref b3), (.ref b3)])) _
    refine XS.iconst X8.here hx rfl (hb hby at_25) ?_
    show Steps p.tables e below (T8.setTop (mkF m 26 #[.val (.int p1), .val (.int p2), .unset, .unset, .unset] [(.int (5 : Int32)), (.ref b3), (.ref b3)])) _
    refine XS.bipush X8.here hx rfl (hb hby at_26) ?_
    show Steps p.tables e below (T8.setTop (mkF m 28 #[.val (.int p1), .val (.int p2), .unset, .unset, .unset] [(.int (6 : Int32)), (.int (5 : Int32)), (.ref b3), (.ref b3)])) _
    refine st9 _ ?_
    show Steps p.tables e below (T9.setTop (mkF m 29 #[.val (.int p1), .val (.int p2), .unset, .unset, .unset] [(.ref b3)])) _
    refine XS.dup X9.here hx rfl (hb hby at_29) rfl rfl ?_
    show Steps p.tables e below (T9.setTop (mkF m 30 #[.val (.int p1), .val (.int p2), .unset, .unset, .unset] [(.ref b3), (.ref b3)])) _
    refine XS.bipush X9.here hx rfl (hb hby at_30) ?_
    show Steps p.tables e below (T9.setTop (mkF m 32 #[.val (.int p1), .val (.int p2), .unset, .unset, .unset] [(.int (6 : Int32)), (.ref b3), (.ref b3)])) _
    refine XS.bipush X9.here hx rfl (hb hby at_32) ?_
    show Steps p.tables e below (T9.setTop (mkF m 34 #[.val (.int p1), .val (.int p2), .unset, .unset, .unset] [(.int (7 : Int32)), (.int (6 : Int32)), (.ref b3), (.ref b3)])) _
    refine st10 _ ?_
    show Steps p.tables e below (T10.setTop (mkF m 35 #[.val (.int p1), .val (.int p2), .unset, .unset, .unset] [(.ref b3)])) _
    refine XS.dup X10.here hx rfl (hb hby at_35) rfl rfl ?_
    show Steps p.tables e below (T10.setTop (mkF m 36 #[.val (.int p1), .val (.int p2), .unset, .unset, .unset] [(.ref b3), (.ref b3)])) _
    refine XS.bipush X10.here hx rfl (hb hby at_36) ?_
    show Steps p.tables e below (T10.setTop (mkF m 38 #[.val (.int p1), .val (.int p2), .unset, .unset, .unset] [(.int (7 : Int32)), (.ref b3), (.ref b3)])) _
    refine XS.bipush X10.here hx rfl (hb hby at_38) ?_
    show Steps p.tables e below (T10.setTop (mkF m 40 #[.val (.int p1), .val (.int p2), .unset, .unset, .unset] [(.int (8 : Int32)), (.int (7 : Int32)), (.ref b3), (.ref b3)])) _
    refine st11 _ ?_
    show Steps p.tables e below (T11.setTop (mkF m 41 #[.val (.int p1), .val (.int p2), .unset, .unset, .unset] [(.ref b3)])) _
    refine XS.dup X11.here hx rfl (hb hby at_41) rfl rfl ?_
    show Steps p.tables e below (T11.setTop (mkF m 42 #[.val (.int p1), .val (.int p2), .unset, .unset, .unset] [(.ref b3), (.ref b3)])) _
    refine XS.bipush X11.here hx rfl (hb hby at_42) ?_
    show Steps p.tables e below (T11.setTop (mkF m 44 #[.val (.int p1), .val (.int p2), .unset, .unset, .unset] [(.int (8 : Int32)), (.ref b3), (.ref b3)])) _
    refine XS.bipush X11.here hx rfl (hb hby at_44) ?_
    show Steps p.tables e below (T11.setTop (mkF m 46 #[.val (.int p1), .val (.int p2), .unset, .unset, .unset] [(.int (9 : Int32)), (.int (8 : Int32)), (.ref b3), (.ref b3)])) _
    refine st12 _ ?_
    show Steps p.tables e below (T12.setTop (mkF m 47 #[.val (.int p1), .val (.int p2), .unset, .unset, .unset] [(.ref b3)])) _
    refine XS.dup X12.here hx rfl (hb hby at_47) rfl rfl ?_
    show Steps p.tables e below (T12.setTop (mkF m 48 #[.val (.int p1), .val (.int p2), .unset, .unset, .unset] [(.ref b3), (.ref b3)])) _
    refine XS.bipush X12.here hx rfl (hb hby at_48) ?_
    show Steps p.tables e below (T12.setTop (mkF m 50 #[.val (.int p1), .val (.int p2), .unset, .unset, .unset] [(.int (9 : Int32)), (.ref b3), (.ref b3)])) _
    refine XS.bipush X12.here hx rfl (hb hby at_50) ?_
    show Steps p.tables e below (T12.setTop (mkF m 52 #[.val (.int p1), .val (.int p2), .unset, .unset, .unset] [(.int (11 : Int32)), (.int (9 : Int32)), (.ref b3), (.ref b3)])) _
    refine st13 _ ?_
    show Steps p.tables e below (T13.setTop (mkF m 53 #[.val (.int p1), .val (.int p2), .unset, .unset, .unset] [(.ref b3)])) _
    refine XS.dup X13.here hx rfl (hb hby at_53) rfl rfl ?_
    show Steps p.tables e below (T13.setTop (mkF m 54 #[.val (.int p1), .val (.int p2), .unset, .unset, .unset] [(.ref b3), (.ref b3)])) _
    refine XS.bipush X13.here hx rfl (hb hby at_54) ?_
    show Steps p.tables e below (T13.setTop (mkF m 56 #[.val (.int p1), .val (.int p2), .unset, .unset, .unset] [(.int (10 : Int32)), (.ref b3), (.ref b3)])) _
    refine XS.bipush X13.here hx rfl (hb hby at_56) ?_
    show Steps p.tables e below (T13.setTop (mkF m 58 #[.val (.int p1), .val (.int p2), .unset, .unset, .unset] [(.int (12 : Int32)), (.int (10 : Int32)), (.ref b3), (.ref b3)])) _
    refine st14 _ ?_
    show Steps p.tables e below (T14.setTop (mkF m 59 #[.val (.int p1), .val (.int p2), .unset, .unset, .unset] [(.ref b3)])) _
    refine XS.dup X14.here hx rfl (hb hby at_59) rfl rfl ?_
    show Steps p.tables e below (T14.setTop (mkF m 60 #[.val (.int p1), .val (.int p2), .unset, .unset, .unset] [(.ref b3), (.ref b3)])) _
    refine XS.bipush X14.here hx rfl (hb hby at_60) ?_
    show Steps p.tables e below (T14.setTop (mkF m 62 #[.val (.int p1), .val (.int p2), .unset, .unset, .unset] [(.int (11 : Int32)), (.ref b3), (.ref b3)])) _
    refine XS.bipush X14.here hx rfl (hb hby at_62) ?_
    show Steps p.tables e below (T14.setTop (mkF m 64 #[.val (.int p1), .val (.int p2), .unset, .unset, .unset] [(.int (13 : Int32)), (.int (11 : Int32)), (.ref b3), (.ref b3)])) _
    refine st15 _ ?_
    show Steps p.tables e below (T15.setTop (mkF m 65 #[.val (.int p1), .val (.int p2), .unset, .unset, .unset] [(.ref b3)])) _
    refine XS.dup X15.here hx rfl (hb hby at_65) rfl rfl ?_
    show Steps p.tables e below (T15.setTop (mkF m 66 #[.val (.int p1), .val (.int p2), .unset, .unset, .unset] [(.ref b3), (.ref b3)])) _
    refine XS.bipush X15.here hx rfl (hb hby at_66) ?_
    show Steps p.tables e below (T15.setTop (mkF m 68 #[.val (.int p1), .val (.int p2), .unset, .unset, .unset] [(.int (12 : Int32)), (.ref b3), (.ref b3)])) _
    refine XS.bipush X15.here hx rfl (hb hby at_68) ?_
    show Steps p.tables e below (T15.setTop (mkF m 70 #[.val (.int p1), .val (.int p2), .unset, .unset, .unset] [(.int (14 : Int32)), (.int (12 : Int32)), (.ref b3), (.ref b3)])) _
    refine st16 _ ?_
    show Steps p.tables e below (T16.setTop (mkF m 71 #[.val (.int p1), .val (.int p2), .unset, .unset, .unset] [(.ref b3)])) _
    refine XS.dup X16.here hx rfl (hb hby at_71) rfl rfl ?_
    show Steps p.tables e below (T16.setTop (mkF m 72 #[.val (.int p1), .val (.int p2), .unset, .unset, .unset] [(.ref b3), (.ref b3)])) _
    refine XS.bipush X16.here hx rfl (hb hby at_72) ?_
    show Steps p.tables e below (T16.setTop (mkF m 74 #[.val (.int p1), .val (.int p2), .unset, .unset, .unset] [(.int (13 : Int32)), (.ref b3), (.ref b3)])) _
    refine XS.bipush X16.here hx rfl (hb hby at_74) ?_
    show Steps p.tables e below (T16.setTop (mkF m 76 #[.val (.int p1), .val (.int p2), .unset, .unset, .unset] [(.int (15 : Int32)), (.int (13 : Int32)), (.ref b3), (.ref b3)])) _
    refine st17 _ ?_
    show Steps p.tables e below (T17.setTop (mkF m 77 #[.val (.int p1), .val (.int p2), .unset, .unset, .unset] [(.ref b3)])) _
    refine XS.dup X17.here hx rfl (hb hby at_77) rfl rfl ?_
    show Steps p.tables e below (T17.setTop (mkF m 78 #[.val (.int p1), .val (.int p2), .unset, .unset, .unset] [(.ref b3), (.ref b3)])) _
    refine XS.bipush X17.here hx rfl (hb hby at_78) ?_
    show Steps p.tables e below (T17.setTop (mkF m 80 #[.val (.int p1), .val (.int p2), .unset, .unset, .unset] [(.int (14 : Int32)), (.ref b3), (.ref b3)])) _
    refine XS.bipush X17.here hx rfl (hb hby at_80) ?_
    show Steps p.tables e below (T17.setTop (mkF m 82 #[.val (.int p1), .val (.int p2), .unset, .unset, .unset] [(.int (100 : Int32)), (.int (14 : Int32)), (.ref b3), (.ref b3)])) _
    refine st18 _ ?_
    show Steps p.tables e below (T18.setTop (mkF m 83 #[.val (.int p1), .val (.int p2), .unset, .unset, .unset] [(.ref b3)])) _
    refine XS.dup X18.here hx rfl (hb hby at_83) rfl rfl ?_
    show Steps p.tables e below (T18.setTop (mkF m 84 #[.val (.int p1), .val (.int p2), .unset, .unset, .unset] [(.ref b3), (.ref b3)])) _
    refine XS.bipush X18.here hx rfl (hb hby at_84) ?_
    show Steps p.tables e below (T18.setTop (mkF m 86 #[.val (.int p1), .val (.int p2), .unset, .unset, .unset] [(.int (15 : Int32)), (.ref b3), (.ref b3)])) _
    refine XS.bipush X18.here hx rfl (hb hby at_86) ?_
    show Steps p.tables e below (T18.setTop (mkF m 88 #[.val (.int p1), .val (.int p2), .unset, .unset, .unset] [(.int (101 : Int32)), (.int (15 : Int32)), (.ref b3), (.ref b3)])) _
    refine st19 _ ?_
    show Steps p.tables e below (T19.setTop (mkF m 89 #[.val (.int p1), .val (.int p2), .unset, .unset, .unset] [(.ref b3)])) _
    refine XS.dup X19.here hx rfl (hb hby at_89) rfl rfl ?_
    show Steps p.tables e below (T19.setTop (mkF m 90 #[.val (.int p1), .val (.int p2), .unset, .unset, .unset] [(.ref b3), (.ref b3)])) _
    refine XS.bipush X19.here hx rfl (hb hby at_90) ?_
    show Steps p.tables e below (T19.setTop (mkF m 92 #[.val (.int p1), .val (.int p2), .unset, .unset, .unset] [(.int (16 : Int32)), (.ref b3), (.ref b3)])) _
    refine XS.bipush X19.here hx rfl (hb hby at_92) ?_
    show Steps p.tables e below (T19.setTop (mkF m 94 #[.val (.int p1), .val (.int p2), .unset, .unset, .unset] [(.int (-11 : Int32)), (.int (16 : Int32)), (.ref b3), (.ref b3)])) _
    refine st20 _ ?_
    show Steps p.tables e below (T20.setTop (mkF m 95 #[.val (.int p1), .val (.int p2), .unset, .unset, .unset] [(.ref b3)])) _
    refine XS.astoreN X20.here hx rfl (hb hby at_95) rfl rfl (l' := #[.val (.int p1), .val (.int p2), .val (.ref b3), .unset, .unset]) rfl ?_
    show Steps p.tables e below (T20.setTop (mkF m 96 #[.val (.int p1), .val (.int p2), .val (.ref b3), .unset, .unset] [])) _
    refine XS.iloadN X20.here hx rfl (hb hby at_96) rfl ?_
    show Steps p.tables e below (T20.setTop (mkF m 97 #[.val (.int p1), .val (.int p2), .val (.ref b3), .unset, .unset] [(.int p2)])) _
    refine XS.bipush X20.here hx rfl (hb hby at_97) ?_
    show Steps p.tables e below (T20.setTop (mkF m 99 #[.val (.int p1), .val (.int p2), .val (.ref b3), .unset, .unset] [(.int (31 : Int32)), (.int p2)])) _
    refine XS.iand X20.here hx rfl (hb hby at_99) rfl ?_
    show Steps p.tables e below (T20.setTop (mkF m 100 #[.val (.int p1), .val (.int p2), .val (.ref b3), .unset, .unset] [(.int (p2 &&& (31 : Int32)))])) _
    refine XS.istoreN X20.here hx rfl (hb hby at_100) rfl (l' := #[.val (.int p1), .val (.int p2), .val (.ref b3), .val (.int (p2 &&& (31 : Int32))), .unset]) rfl ?_
    show Steps p.tables e below (T20.setTop (mkF m 101 #[.val (.int p1), .val (.int p2), .val (.ref b3), .val (.int (p2 &&& (31 : Int32))), .unset] [])) _
    refine XS.iloadN X20.here hx rfl (hb hby at_101) rfl ?_
    show Steps p.tables e below (T20.setTop (mkF m 102 #[.val (.int p1), .val (.int p2), .val (.ref b3), .val (.int (p2 &&& (31 : Int32))), .unset] [(.int (p2 &&& (31 : Int32)))])) _
    refine XS.bipush X20.here hx rfl (hb hby at_102) ?_
    show Steps p.tables e below (T20.setTop (mkF m 104 #[.val (.int p1), .val (.int p2), .val (.ref b3), .val (.int (p2 &&& (31 : Int32))), .unset] [(.int (17 : Int32)), (.int (p2 &&& (31 : Int32)))])) _
    refine XS.icmpNo X20.here hx rfl (hb hby at_104) rfl (tlt hc104).2.1 ?_
    show Steps p.tables e below (T20.setTop (mkF m 107 #[.val (.int p1), .val (.int p2), .val (.ref b3), .val (.int (p2 &&& (31 : Int32))), .unset] [])) _
    refine XS.aloadN X20.here hx rfl (hb hby at_107) rfl rfl ?_
    show Steps p.tables e below (T20.setTop (mkF m 108 #[.val (.int p1), .val (.int p2), .val (.ref b3), .val (.int (p2 &&& (31 : Int32))), .unset] [(.ref b3)])) _
    refine XS.iloadN X20.here hx rfl (hb hby at_108) rfl ?_
    show Steps p.tables e below (T20.setTop (mkF m 109 #[.val (.int p1), .val (.int p2), .val (.ref b3), .val (.int (p2 &&& (31 : Int32))), .unset] [(.int (p2 &&& (31 : Int32))), (.ref b3)])) _
    refine X20.iaload hx (j := (p2 &&& (31 : Int32))) (v := (.int w21)) (by rw [e20]; exact Ar_b3_109.1) (State.isArrayOf_alike hZ.alike Ar_b3_109.2.1) Ar_b3_109.2.2 hin109 hat109 (g := (mkF m 109 #[.val (.int p1), .val (.int p2), .val (.ref b3), .val (.int (p2 &&& (31 : Int32))), .unset] [(.int (p2 &&& (31 : Int32))), (.ref b3)])) rfl rfl (hb hby at_109) _ ?_
    show Steps p.tables e below (T20.setTop (mkF m 110 #[.val (.int p1), .val (.int p2), .val (.ref b3), .val (.int (p2 &&& (31 : Int32))), .unset] [(.int w21)])) _
    refine XS.istore X20.here hx rfl (hb hby at_110) rfl (l' := #[.val (.int p1), .val (.int p2), .val (.ref b3), .val (.int (p2 &&& (31 : Int32))), .val (.int w21)]) rfl ?_
    show Steps p.tables e below (T20.setTop (mkF m 112 #[.val (.int p1), .val (.int p2), .val (.ref b3), .val (.int (p2 &&& (31 : Int32))), .val (.int w21)] [])) _
    refine XS.goto X20.here hx rfl (pc0 := 112) (pc' := 138) rfl (hb hby at_112) (by decide) (by decide) ?_
    show Steps p.tables e below (T20.setTop (mkF m 138 #[.val (.int p1), .val (.int p2), .val (.ref b3), .val (.int (p2 &&& (31 : Int32))), .val (.int w21)] [])) _
    refine XS.iload X20.here hx rfl (hb hby at_138) rfl ?_
    show Steps p.tables e below (T20.setTop (mkF m 140 #[.val (.int p1), .val (.int p2), .val (.ref b3), .val (.int (p2 &&& (31 : Int32))), .val (.int w21)] [(.int w21)])) _
    refine st22 _ ?_
    show Steps p.tables e below (T22.setTop (mkF m 143 #[.val (.int p1), .val (.int p2), .val (.ref b3), .val (.int (p2 &&& (31 : Int32))), .val (.int w21)] [(.ref ww)])) _
    refine XS.iload X22.here hx rfl (hb hby at_143) rfl ?_
    show Steps p.tables e below (T22.setTop (mkF m 145 #[.val (.int p1), .val (.int p2), .val (.ref b3), .val (.int (p2 &&& (31 : Int32))), .val (.int w21)] [(.int w21), (.ref ww)])) _
    refine st23 _ ?_
    show Steps p.tables e below (T23.setTop (mkF m 148 #[.val (.int p1), .val (.int p2), .val (.ref b3), .val (.int (p2 &&& (31 : Int32))), .val (.int w21)] [(.ref ww), (.ref ww)])) _
    refine Jvm.RoadKit.acmp (g := (mkF m 148 #[.val (.int p1), .val (.int p2), .val (.ref b3), .val (.int (p2 &&& (31 : Int32))), .val (.int w21)] [(.ref ww), (.ref ww)])) X23 hx rfl rfl rfl (pc0 := 148) (pc' := 151) (same := true) rfl (hb hby at_148) rfl (decide_eq_true rfl) (by decide) (by decide) ?_
    show Steps p.tables e below (T23.setTop (mkF m 151 #[.val (.int p1), .val (.int p2), .val (.ref b3), .val (.int (p2 &&& (31 : Int32))), .val (.int w21)] [])) _
    refine XS.iconst X23.here hx rfl (hb hby at_151) ?_
    show Steps p.tables e below (T23.setTop (mkF m 152 #[.val (.int p1), .val (.int p2), .val (.ref b3), .val (.int (p2 &&& (31 : Int32))), .val (.int w21)] [(.int (1 : Int32))])) _
    refine XS.goto X23.here hx rfl (pc0 := 152) (pc' := 156) rfl (hb hby at_152) (by decide) (by decide) ?_
    show Steps p.tables e below (T23.setTop (mkF m 156 #[.val (.int p1), .val (.int p2), .val (.ref b3), .val (.int (p2 &&& (31 : Int32))), .val (.int w21)] [(.int (1 : Int32))])) _
    exact retN X23 hx (t := .boolean) Bd.returns (by simp) (hb hby at_156) hr
  · show Q0 n0 _ T23.heap _
    rw [eq23]
    exact ⟨rfl, N23⟩

set_option maxRecDepth 65536 in
set_option maxHeartbeats 40000000 in
theorem rm0_01 (l : Launch) (Z : State) (a0 : Array Value) (hw : ∀ d ∈ tables_1, d.before a0 Z = true) (ws : List Jvm.Cond) (p1 : Int32) (p2 : Int32) (w21 : Int32) (aA : Addr) (cl : Cell) (w : Nat → Addr) (h0 : Heap) (n0 : Nat) (Z0 : n0 ≤ h0.size) (OF : OpF Z h0 aA cl w) (HS : Spc w w21 .null) (hinb109 : ¬ (p2 &&& (31 : Int32)) < 0 ∧ (p2 &&& (31 : Int32)) < (17 : Int32)) (hval109 : (([.int (1 : Int32), .int (2 : Int32), .int (3 : Int32), .int (4 : Int32), .int (5 : Int32), .int (6 : Int32), .int (7 : Int32), .int (8 : Int32), .int (9 : Int32), .int (11 : Int32), .int (12 : Int32), .int (13 : Int32), .int (14 : Int32), .int (15 : Int32), .int (100 : Int32), .int (101 : Int32), .int (-11 : Int32)] : List Value)).getD ((p2 &&& (31 : Int32))).toNatClampNeg (.int (0 : Int32)) = (.int w21)) (hc104 : (p2 &&& (31 : Int32)) < (17 : Int32)) :
    MetFree l x (head1 (Jvm.Cond.code x code maxLocals ret :: ws) room_1) (fun a U => a = #[(.int p1), (.int p2)] ∧ Z.Warmed39 U.vm ∧ U.heap = h0) (fun _ _ _ _ _ => True) (fun _ U o U' => ∃ v L, o = .returned v ∧ Q0 n0 v U'.heap L ∧ FrameEnd U o U' L room_1.cells room_1.slots) := by
  refine MetFree.of_bodySF (plainFor_of_name pn_0) hisR ?_
  intro p e s m args below meth c s₁ Bd hml0 hP hK
  obtain ⟨rfl, hZ, hh⟩ := hP
  have hx := Bd.exec
  have hby := Bd.bytes
  have hml : c.maxLocals = 5 := hml0
  have hown : s.vm.findClass "com/example/ulmus/ulmus/core/wire/OpCodeOfPinLaw" = some m.cls := findClass_of_methodNamed Bd.named
  have hnm := (name_of_methodNamed Bd.named Bd.method).1
  have X0 : Stand p l e room_1 s m #[(.int p1), (.int p2)] below meth c s₁ [] 0 0 := Stand.of_body Bd
  have e0 : s₁.heap = h0 := by rw [← hh, Bd.state]; rfl
  have N0 := Fr.nil n0
  have pre0 : ∀ t, Steps p.tables e below (s₁.setTop (mkF m 0 #[.val (.int p1), .val (.int p2), .unset, .unset, .unset] [])) t → Steps p.tables e below (s₁.setTop (entryFrame m #[(.int p1), (.int p2)] maxLocals)) t := fun t k => castTop (ef_0 m p1 p2) k
  obtain ⟨T3, h3, k3, X3, e3, E3, A3, st3⟩ := newP X0 hx hZ (hw _ (List.mem_of_getElem? (i := 0) rfl)) e0 (g := (mkF m 2 #[.val (.int p1), .val (.int p2), .unset, .unset, .unset] [(.int (17 : Int32))])) rfl (hb hby at_2) rfl (by decide) (cap := 17) (by decide) (by decide) (by decide) (by decide)
  obtain ⟨b3, g3⟩ : ∃ z, z = h0.size := ⟨_, rfl⟩      -- the fresh array's address
  rw [← g3] at A3 st3
  have V_b3 : Arv Z h3 b3 k3 .int (17 : Int32) [(.int (0 : Int32)), (.int (0 : Int32)), (.int (0 : Int32)), (.int (0 : Int32)), (.int (0 : Int32)), (.int (0 : Int32)), (.int (0 : Int32)), (.int (0 : Int32)), (.int (0 : Int32)), (.int (0 : Int32)), (.int (0 : Int32)), (.int (0 : Int32)), (.int (0 : Int32)), (.int (0 : Int32)), (.int (0 : Int32)), (.int (0 : Int32)), (.int (0 : Int32))] (.int (0 : Int32)) := (Arv.new A3 (by decide)).pad (pad_rep [] (.int (0 : Int32)) 17)
  have g_b3 : n0 ≤ b3 := Nat.le_trans Z0 (Nat.le_of_eq g3.symm)
  have sz_b3 : h0.size ≤ b3 := (Nat.le_trans (Keep.refl h0 []).1 (Nat.le_of_eq g3.symm))
  have K3 : Keep h0 h3 [] := (Keep.refl h0 []).ext E3
  obtain ⟨cl_b3_7, Ar_b3, q_b3, S_b3, N_b3, H_b3, G_b3⟩ := V_b3      -- open the array's fact as it stands now (its cell, kind, length, elements)
  have hin7 : ¬ ((0 : Int32) < 0 ∨ cl_b3_7.slots.size ≤ ((0 : Int32)).toNatClampNeg) := inb_of S_b3 ⟨by decide, by decide⟩
  obtain ⟨T4, h4, X4, e4, W4, st4⟩ := stI X3 hx hZ e3 Ar_b3 (j := (0 : Int32)) hin7 (g := (mkF m 7 #[.val (.int p1), .val (.int p2), .unset, .unset, .unset] [(.int (1 : Int32)), (.int (0 : Int32)), (.ref b3), (.ref b3)])) rfl rfl (hb hby at_7)
  have V_b3_4 := Arv.set Ar_b3 q_b3 S_b3 N_b3 H_b3 G_b3 rfl W4 0 rfl (Nat.le_of_ble_eq_true rfl)      -- the array as it stands now (the place must lie among its first values: Arv.pad with pad_rep lengthens them)
  have K4 : Keep h0 h4 [] := K3.wr W4 (Or.inr sz_b3)
  have N4 := Fr.snoc X4 N0 g_b3
  obtain ⟨cl_b3_11, Ar_b3, q_b3, S_b3, N_b3, H_b3, G_b3⟩ := V_b3_4      -- open the array's fact as it stands now (its cell, kind, length, elements)
  have hin11 : ¬ ((1 : Int32) < 0 ∨ cl_b3_11.slots.size ≤ ((1 : Int32)).toNatClampNeg) := inb_of S_b3 ⟨by decide, by decide⟩
  obtain ⟨T5, h5, X5, e5, W5, st5⟩ := stI X4 hx hZ e4 Ar_b3 (j := (1 : Int32)) hin11 (g := (mkF m 11 #[.val (.int p1), .val (.int p2), .unset, .unset, .unset] [(.int (2 : Int32)), (.int (1 : Int32)), (.ref b3), (.ref b3)])) rfl rfl (hb hby at_11)
  have V_b3_5 := Arv.set Ar_b3 q_b3 S_b3 N_b3 H_b3 G_b3 rfl W5 1 rfl (Nat.le_of_ble_eq_true rfl)      -- the array as it stands now (the place must lie among its first values: Arv.pad with pad_rep lengthens them)
  have K5 : Keep h0 h5 [] := K4.wr W5 (Or.inr sz_b3)
  have N5 := Fr.snoc X5 N4 g_b3
  obtain ⟨cl_b3_15, Ar_b3, q_b3, S_b3, N_b3, H_b3, G_b3⟩ := V_b3_5      -- open the array's fact as it stands now (its cell, kind, length, elements)
  have hin15 : ¬ ((2 : Int32) < 0 ∨ cl_b3_15.slots.size ≤ ((2 : Int32)).toNatClampNeg) := inb_of S_b3 ⟨by decide, by decide⟩
  obtain ⟨T6, h6, X6, e6, W6, st6⟩ := stI X5 hx hZ e5 Ar_b3 (j := (2 : Int32)) hin15 (g := (mkF m 15 #[.val (.int p1), .val (.int p2), .unset, .unset, .unset] [(.int (3 : Int32)), (.int (2 : Int32)), (.ref b3), (.ref b3)])) rfl rfl (hb hby at_15)
  have V_b3_6 := Arv.set Ar_b3 q_b3 S_b3 N_b3 H_b3 G_b3 rfl W6 2 rfl (Nat.le_of_ble_eq_true rfl)      -- the array as it stands now (the place must lie among its first values: Arv.pad with pad_rep lengthens them)
  have K6 : Keep h0 h6 [] := K5.wr W6 (Or.inr sz_b3)
  have N6 := Fr.snoc X6 N5 g_b3
  obtain ⟨cl_b3_19, Ar_b3, q_b3, S_b3, N_b3, H_b3, G_b3⟩ := V_b3_6      -- open the array's fact as it stands now (its cell, kind, length, elements)
  have hin19 : ¬ ((3 : Int32) < 0 ∨ cl_b3_19.slots.size ≤ ((3 : Int32)).toNatClampNeg) := inb_of S_b3 ⟨by decide, by decide⟩
  obtain ⟨T7, h7, X7, e7, W7, st7⟩ := stI X6 hx hZ e6 Ar_b3 (j := (3 : Int32)) hin19 (g := (mkF m 19 #[.val (.int p1), .val (.int p2), .unset, .unset, .unset] [(.int (4 : Int32)), (.int (3 : Int32)), (.ref b3), (.ref b3)])) rfl rfl (hb hby at_19)
  have V_b3_7 := Arv.set Ar_b3 q_b3 S_b3 N_b3 H_b3 G_b3 rfl W7 3 rfl (Nat.le_of_ble_eq_true rfl)      -- the array as it stands now (the place must lie among its first values: Arv.pad with pad_rep lengthens them)
  have K7 : Keep h0 h7 [] := K6.wr W7 (Or.inr sz_b3)
  have N7 := Fr.snoc X7 N6 g_b3
  obtain ⟨cl_b3_23, Ar_b3, q_b3, S_b3, N_b3, H_b3, G_b3⟩ := V_b3_7      -- open the array's fact as it stands now (its cell, kind, length, elements)
  have hin23 : ¬ ((4 : Int32) < 0 ∨ cl_b3_23.slots.size ≤ ((4 : Int32)).toNatClampNeg) := inb_of S_b3 ⟨by decide, by decide⟩
  obtain ⟨T8, h8, X8, e8, W8, st8⟩ := stI X7 hx hZ e7 Ar_b3 (j := (4 : Int32)) hin23 (g := (mkF m 23 #[.val (.int p1), .val (.int p2), .unset, .unset, .unset] [(.int (5 : Int32)), (.int (4 : Int32)), (.ref b3), (.ref b3)])) rfl rfl (hb hby at_23)
  have V_b3_8 := Arv.set Ar_b3 q_b3 S_b3 N_b3 H_b3 G_b3 rfl W8 4 rfl (Nat.le_of_ble_eq_true rfl)      -- the array as it stands now (the place must lie among its first values: Arv.pad with pad_rep lengthens them)
  have K8 : Keep h0 h8 [] := K7.wr W8 (Or.inr sz_b3)
  have N8 := Fr.snoc X8 N7 g_b3
  obtain ⟨cl_b3_28, Ar_b3, q_b3, S_b3, N_b3, H_b3, G_b3⟩ := V_b3_8      -- open the array's fact as it stands now (its cell, kind, length, elements)
  have hin28 : ¬ ((5 : Int32) < 0 ∨ cl_b3_28.slots.size ≤ ((5 : Int32)).toNatClampNeg) := inb_of S_b3 ⟨by decide, by decide⟩
  obtain ⟨T9, h9, X9, e9, W9, st9⟩ := stI X8 hx hZ e8 Ar_b3 (j := (5 : Int32)) hin28 (g := (mkF m 28 #[.val (.int p1), .val (.int p2), .unset, .unset, .unset] [(.int (6 : Int32)), (.int (5 : Int32)), (.ref b3), (.ref b3)])) rfl rfl (hb hby at_28)
  have V_b3_9 := Arv.set Ar_b3 q_b3 S_b3 N_b3 H_b3 G_b3 rfl W9 5 rfl (Nat.le_of_ble_eq_true rfl)      -- the array as it stands now (the place must lie among its first values: Arv.pad with pad_rep lengthens them)
  have K9 : Keep h0 h9 [] := K8.wr W9 (Or.inr sz_b3)
  have N9 := Fr.snoc X9 N8 g_b3
  obtain ⟨cl_b3_34, Ar_b3, q_b3, S_b3, N_b3, H_b3, G_b3⟩ := V_b3_9      -- open the array's fact as it stands now (its cell, kind, length, elements)
  have hin34 : ¬ ((6 : Int32) < 0 ∨ cl_b3_34.slots.size ≤ ((6 : Int32)).toNatClampNeg) := inb_of S_b3 ⟨by decide, by decide⟩
  obtain ⟨T10, h10, X10, e10, W10, st10⟩ := stI X9 hx hZ e9 Ar_b3 (j := (6 : Int32)) hin34 (g := (mkF m 34 #[.val (.int p1), .val (.int p2), .unset, .unset, .unset] [(.int (7 : Int32)), (.int (6 : Int32)), (.ref b3), (.ref b3)])) rfl rfl (hb hby at_34)
  have V_b3_10 := Arv.set Ar_b3 q_b3 S_b3 N_b3 H_b3 G_b3 rfl W10 6 rfl (Nat.le_of_ble_eq_true rfl)      -- the array as it stands now (the place must lie among its first values: Arv.pad with pad_rep lengthens them)
  have K10 : Keep h0 h10 [] := K9.wr W10 (Or.inr sz_b3)
  have N10 := Fr.snoc X10 N9 g_b3
  obtain ⟨cl_b3_40, Ar_b3, q_b3, S_b3, N_b3, H_b3, G_b3⟩ := V_b3_10      -- open the array's fact as it stands now (its cell, kind, length, elements)
  have hin40 : ¬ ((7 : Int32) < 0 ∨ cl_b3_40.slots.size ≤ ((7 : Int32)).toNatClampNeg) := inb_of S_b3 ⟨by decide, by decide⟩
  obtain ⟨T11, h11, X11, e11, W11, st11⟩ := stI X10 hx hZ e10 Ar_b3 (j := (7 : Int32)) hin40 (g := (mkF m 40 #[.val (.int p1), .val (.int p2), .unset, .unset, .unset] [(.int (8 : Int32)), (.int (7 : Int32)), (.ref b3), (.ref b3)])) rfl rfl (hb hby at_40)
  have V_b3_11 := Arv.set Ar_b3 q_b3 S_b3 N_b3 H_b3 G_b3 rfl W11 7 rfl (Nat.le_of_ble_eq_true rfl)      -- the array as it stands now (the place must lie among its first values: Arv.pad with pad_rep lengthens them)
  have K11 : Keep h0 h11 [] := K10.wr W11 (Or.inr sz_b3)
  have N11 := Fr.snoc X11 N10 g_b3
  obtain ⟨cl_b3_46, Ar_b3, q_b3, S_b3, N_b3, H_b3, G_b3⟩ := V_b3_11      -- open the array's fact as it stands now (its cell, kind, length, elements)
  have hin46 : ¬ ((8 : Int32) < 0 ∨ cl_b3_46.slots.size ≤ ((8 : Int32)).toNatClampNeg) := inb_of S_b3 ⟨by decide, by decide⟩
  obtain ⟨T12, h12, X12, e12, W12, st12⟩ := stI X11 hx hZ e11 Ar_b3 (j := (8 : Int32)) hin46 (g := (mkF m 46 #[.val (.int p1), .val (.int p2), .unset, .unset, .unset] [(.int (9 : Int32)), (.int (8 : Int32)), (.ref b3), (.ref b3)])) rfl rfl (hb hby at_46)
  have V_b3_12 := Arv.set Ar_b3 q_b3 S_b3 N_b3 H_b3 G_b3 rfl W12 8 rfl (Nat.le_of_ble_eq_true rfl)      -- the array as it stands now (the place must lie among its first values: Arv.pad with pad_rep lengthens them)
  have K12 : Keep h0 h12 [] := K11.wr W12 (Or.inr sz_b3)
  have N12 := Fr.snoc X12 N11 g_b3
  obtain ⟨cl_b3_52, Ar_b3, q_b3, S_b3, N_b3, H_b3, G_b3⟩ := V_b3_12      -- open the array's fact as it stands now (its cell, kind, length, elements)
  have hin52 : ¬ ((9 : Int32) < 0 ∨ cl_b3_52.slots.size ≤ ((9 : Int32)).toNatClampNeg) := inb_of S_b3 ⟨by decide, by decide⟩
  obtain ⟨T13, h13, X13, e13, W13, st13⟩ := stI X12 hx hZ e12 Ar_b3 (j := (9 : Int32)) hin52 (g := (mkF m 52 #[.val (.int p1), .val (.int p2), .unset, .unset, .unset] [(.int (11 : Int32)), (.int (9 : Int32)), (.ref b3), (.ref b3)])) rfl rfl (hb hby at_52)
  have V_b3_13 := Arv.set Ar_b3 q_b3 S_b3 N_b3 H_b3 G_b3 rfl W13 9 rfl (Nat.le_of_ble_eq_true rfl)      -- the array as it stands now (the place must lie among its first values: Arv.pad with pad_rep lengthens them)
  have K13 : Keep h0 h13 [] := K12.wr W13 (Or.inr sz_b3)
  have N13 := Fr.snoc X13 N12 g_b3
  obtain ⟨cl_b3_58, Ar_b3, q_b3, S_b3, N_b3, H_b3, G_b3⟩ := V_b3_13      -- open the array's fact as it stands now (its cell, kind, length, elements)
  have hin58 : ¬ ((10 : Int32) < 0 ∨ cl_b3_58.slots.size ≤ ((10 : Int32)).toNatClampNeg) := inb_of S_b3 ⟨by decide, by decide⟩
  obtain ⟨T14, h14, X14, e14, W14, st14⟩ := stI X13 hx hZ e13 Ar_b3 (j := (10 : Int32)) hin58 (g := (mkF m 58 #[.val (.int p1), .val (.int p2), .unset, .unset, .unset] [(.int (12 : Int32)), (.int (10 : Int32)), (.ref b3), (.ref b3)])) rfl rfl (hb hby at_58)
  have V_b3_14 := Arv.set Ar_b3 q_b3 S_b3 N_b3 H_b3 G_b3 rfl W14 10 rfl (Nat.le_of_ble_eq_true rfl)      -- the array as it stands now (the place must lie among its first values: Arv.pad with pad_rep lengthens them)
  have K14 : Keep h0 h14 [] := K13.wr W14 (Or.inr sz_b3)
  have N14 := Fr.snoc X14 N13 g_b3
  obtain ⟨cl_b3_64, Ar_b3, q_b3, S_b3, N_b3, H_b3, G_b3⟩ := V_b3_14      -- open the array's fact as it stands now (its cell, kind, length, elements)
  have hin64 : ¬ ((11 : Int32) < 0 ∨ cl_b3_64.slots.size ≤ ((11 : Int32)).toNatClampNeg) := inb_of S_b3 ⟨by decide, by decide⟩
  obtain ⟨T15, h15, X15, e15, W15, st15⟩ := stI X14 hx hZ e14 Ar_b3 (j := (11 : Int32)) hin64 (g := (mkF m 64 #[.val (.int p1), .val (.int p2), .unset, .unset, .unset] [(.int (13 : Int32)), (.int (11 : Int32)), (.ref b3), (.ref b3)])) rfl rfl (hb hby at_64)
  have V_b3_15 := Arv.set Ar_b3 q_b3 S_b3 N_b3 H_b3 G_b3 rfl W15 11 rfl (Nat.le_of_ble_eq_true rfl)      -- the array as it stands now (the place must lie among its first values: Arv.pad with pad_rep lengthens them)
  have K15 : Keep h0 h15 [] := K14.wr W15 (Or.inr sz_b3)
  have N15 := Fr.snoc X15 N14 g_b3
  obtain ⟨cl_b3_70, Ar_b3, q_b3, S_b3, N_b3, H_b3, G_b3⟩ := V_b3_15      -- open the array's fact as it stands now (its cell, kind, length, elements)
  have hin70 : ¬ ((12 : Int32) < 0 ∨ cl_b3_70.slots.size ≤ ((12 : Int32)).toNatClampNeg) := inb_of S_b3 ⟨by decide, by decide⟩
  obtain ⟨T16, h16, X16, e16, W16, st16⟩ := stI X15 hx hZ e15 Ar_b3 (j := (12 : Int32)) hin70 (g := (mkF m 70 #[.val (.int p1), .val (.int p2), .unset, .unset, .unset] [(.int (14 : Int32)), (.int (12 : Int32)), (.ref b3), (.ref b3)])) rfl rfl (hb hby at_70)
  have V_b3_16 := Arv.set Ar_b3 q_b3 S_b3 N_b3 H_b3 G_b3 rfl W16 12 rfl (Nat.le_of_ble_eq_true rfl)      -- the array as it stands now (the place must lie among its first values: Arv.pad with pad_rep lengthens them)
  have K16 : Keep h0 h16 [] := K15.wr W16 (Or.inr sz_b3)
  have N16 := Fr.snoc X16 N15 g_b3
  obtain ⟨cl_b3_76, Ar_b3, q_b3, S_b3, N_b3, H_b3, G_b3⟩ := V_b3_16      -- open the array's fact as it stands now (its cell, kind, length, elements)
  have hin76 : ¬ ((13 : Int32) < 0 ∨ cl_b3_76.slots.size ≤ ((13 : Int32)).toNatClampNeg) := inb_of S_b3 ⟨by decide, by decide⟩
  obtain ⟨T17, h17, X17, e17, W17, st17⟩ := stI X16 hx hZ e16 Ar_b3 (j := (13 : Int32)) hin76 (g := (mkF m 76 #[.val (.int p1), .val (.int p2), .unset, .unset, .unset] [(.int (15 : Int32)), (.int (13 : Int32)), (.ref b3), (.ref b3)])) rfl rfl (hb hby at_76)
  have V_b3_17 := Arv.set Ar_b3 q_b3 S_b3 N_b3 H_b3 G_b3 rfl W17 13 rfl (Nat.le_of_ble_eq_true rfl)      -- the array as it stands now (the place must lie among its first values: Arv.pad with pad_rep lengthens them)
  have K17 : Keep h0 h17 [] := K16.wr W17 (Or.inr sz_b3)
  have N17 := Fr.snoc X17 N16 g_b3
  obtain ⟨cl_b3_82, Ar_b3, q_b3, S_b3, N_b3, H_b3, G_b3⟩ := V_b3_17      -- open the array's fact as it stands now (its cell, kind, length, elements)
  have hin82 : ¬ ((14 : Int32) < 0 ∨ cl_b3_82.slots.size ≤ ((14 : Int32)).toNatClampNeg) := inb_of S_b3 ⟨by decide, by decide⟩
  obtain ⟨T18, h18, X18, e18, W18, st18⟩ := stI X17 hx hZ e17 Ar_b3 (j := (14 : Int32)) hin82 (g := (mkF m 82 #[.val (.int p1), .val (.int p2), .unset, .unset, .unset] [(.int (100 : Int32)), (.int (14 : Int32)), (.ref b3), (.ref b3)])) rfl rfl (hb hby at_82)
  have V_b3_18 := Arv.set Ar_b3 q_b3 S_b3 N_b3 H_b3 G_b3 rfl W18 14 rfl (Nat.le_of_ble_eq_true rfl)      -- the array as it stands now (the place must lie among its first values: Arv.pad with pad_rep lengthens them)
  have K18 : Keep h0 h18 [] := K17.wr W18 (Or.inr sz_b3)
  have N18 := Fr.snoc X18 N17 g_b3
  obtain ⟨cl_b3_88, Ar_b3, q_b3, S_b3, N_b3, H_b3, G_b3⟩ := V_b3_18      -- open the array's fact as it stands now (its cell, kind, length, elements)
  have hin88 : ¬ ((15 : Int32) < 0 ∨ cl_b3_88.slots.size ≤ ((15 : Int32)).toNatClampNeg) := inb_of S_b3 ⟨by decide, by decide⟩
  obtain ⟨T19, h19, X19, e19, W19, st19⟩ := stI X18 hx hZ e18 Ar_b3 (j := (15 : Int32)) hin88 (g := (mkF m 88 #[.val (.int p1), .val (.int p2), .unset, .unset, .unset] [(.int (101 : Int32)), (.int (15 : Int32)), (.ref b3), (.ref b3)])) rfl rfl (hb hby at_88)
  have V_b3_19 := Arv.set Ar_b3 q_b3 S_b3 N_b3 H_b3 G_b3 rfl W19 15 rfl (Nat.le_of_ble_eq_true rfl)      -- the array as it stands now (the place must lie among its first values: Arv.pad with pad_rep lengthens them)
  have K19 : Keep h0 h19 [] := K18.wr W19 (Or.inr sz_b3)
  have N19 := Fr.snoc X19 N18 g_b3
  obtain ⟨cl_b3_94, Ar_b3, q_b3, S_b3, N_b3, H_b3, G_b3⟩ := V_b3_19      -- open the array's fact as it stands now (its cell, kind, length, elements)
  have hin94 : ¬ ((16 : Int32) < 0 ∨ cl_b3_94.slots.size ≤ ((16 : Int32)).toNatClampNeg) := inb_of S_b3 ⟨by decide, by decide⟩
  obtain ⟨T20, h20, X20, e20, W20, st20⟩ := stI X19 hx hZ e19 Ar_b3 (j := (16 : Int32)) hin94 (g := (mkF m 94 #[.val (.int p1), .val (.int p2), .unset, .unset, .unset] [(.int (-11 : Int32)), (.int (16 : Int32)), (.ref b3), (.ref b3)])) rfl rfl (hb hby at_94)
  have V_b3_20 := Arv.set Ar_b3 q_b3 S_b3 N_b3 H_b3 G_b3 rfl W20 16 rfl (Nat.le_of_ble_eq_true rfl)      -- the array as it stands now (the place must lie among its first values: Arv.pad with pad_rep lengthens them)
  have K20 : Keep h0 h20 [] := K19.wr W20 (Or.inr sz_b3)
  have N20 := Fr.snoc X20 N19 g_b3
  obtain ⟨cl_b3_109, Ar_b3_109, q_b3_109, S_b3_109, N_b3_109, H_b3_109, G_b3_109⟩ := V_b3_20
  have hin109 : ¬ ((p2 &&& (31 : Int32)) < 0 ∨ cl_b3_109.slots.size ≤ ((p2 &&& (31 : Int32))).toNatClampNeg) := inb_of S_b3_109 hinb109
  have hat109 : cl_b3_109.slots[((p2 &&& (31 : Int32))).toNatClampNeg]? = some (.int w21) := H_b3_109.at hin109 hval109
  have EK : Ext h0 h20 := ⟨K20.1, fun a c q => K20.2.1 a c q nin0⟩
  -- pc 140: com/example/ulmus/ulmus/core/wire/OpCode.of by its contract rm1
  obtain ⟨_, _, ⟨T22, L22, k22, n22⟩, -, X22, ⟨Lc22, hQ22, l22, y22, z22⟩, st22⟩ := Jvm.LawKit.callS X20 hx (y := (⟨"com/example/ulmus/ulmus/core/wire/OpCode", "of", "(I)Lcom/example/ulmus/ulmus/core/wire/OpCode;"⟩ : MethodName)) hown (mvT hZ (hw _ (List.mem_of_getElem? (i := 1) rfl))) (mvT hZ (hw _ (List.mem_of_getElem? (i := 2) rfl))) (mvT hZ (hw _ (List.mem_of_getElem? (i := 3) rfl))) (mvT hZ (hw _ (List.mem_of_getElem? (i := 4) rfl))) (by decide) (backOf (W := 0) (rm1 l Z a0 hw [] w21 aA cl w .null h20 n0 (Nat.le_trans (Nat.le_trans (Nat.le_trans (Nat.le_trans (Nat.le_trans (Nat.le_trans (Nat.le_trans (Nat.le_trans (Nat.le_trans (Nat.le_trans (Nat.le_trans (Nat.le_trans (Nat.le_trans (Nat.le_trans (Nat.le_trans (Nat.le_trans (Nat.le_trans (Nat.le_trans Z0 E3.1) (Keep.of_wr W4).1) (Keep.of_wr W5).1) (Keep.of_wr W6).1) (Keep.of_wr W7).1) (Keep.of_wr W8).1) (Keep.of_wr W9).1) (Keep.of_wr W10).1) (Keep.of_wr W11).1) (Keep.of_wr W12).1) (Keep.of_wr W13).1) (Keep.of_wr W14).1) (Keep.of_wr W15).1) (Keep.of_wr W16).1) (Keep.of_wr W17).1) (Keep.of_wr W18).1) (Keep.of_wr W19).1) (Keep.of_wr W20).1) (OF.ext EK) HS) hZ (hw _ (List.mem_of_getElem? (i := 4) rfl)) (hw _ (List.mem_of_getElem? (i := 3) rfl)) (by decide) (by decide)) (g := (mkF m 140 #[.val (.int p1), .val (.int p2), .val (.ref b3), .val (.int (p2 &&& (31 : Int32))), .val (.int w21)] [(.int w21)])) rfl (by rw [hml]; rfl) (argsL := [(.int w21)]) (rest := []) (lenOf pd_0_0 rfl) rfl (by show 2 * 0 + _ ≤ _; exact Nat.le_of_eq rfl) (hb hby at_140) (fun _ _ => ⟨rfl, e20, (by decide : 1 + 0 ≤ _), (by decide : 17 + 0 ≤ _)⟩)
  dsimp only [Pt.U, Pt.locs, Pt.cells, Pt.slots] at X22 l22 y22 z22 st22 hQ22
  subst l22 y22 z22
  obtain ⟨rfl, N22q, eq22⟩ := hQ22
  have N22 := Fr.app N20 N22q
  -- pc 145: com/example/ulmus/ulmus/core/wire/OpCodeOfPinLaw.expected by its contract rm2
  obtain ⟨_, _, ⟨T23, L23, k23, n23⟩, -, X23, ⟨Lc23, hQ23, l23, y23, z23⟩, st23⟩ := Jvm.LawKit.callS X22 hx (y := (⟨"com/example/ulmus/ulmus/core/wire/OpCodeOfPinLaw", "expected", "(I)Lcom/example/ulmus/ulmus/core/wire/OpCode;"⟩ : MethodName)) hown (mvT hZ (hw _ (List.mem_of_getElem? (i := 13) rfl))) (mvT hZ (hw _ (List.mem_of_getElem? (i := 14) rfl))) (mvT hZ (hw _ (List.mem_of_getElem? (i := 15) rfl))) (mvT hZ (hw _ (List.mem_of_getElem? (i := 16) rfl))) (by decide) (backOf (W := 1) (rm2 l Z a0 hw [] w21 aA cl w .null h20 n0 (Nat.le_trans (Nat.le_trans (Nat.le_trans (Nat.le_trans (Nat.le_trans (Nat.le_trans (Nat.le_trans (Nat.le_trans (Nat.le_trans (Nat.le_trans (Nat.le_trans (Nat.le_trans (Nat.le_trans (Nat.le_trans (Nat.le_trans (Nat.le_trans (Nat.le_trans (Nat.le_trans Z0 E3.1) (Keep.of_wr W4).1) (Keep.of_wr W5).1) (Keep.of_wr W6).1) (Keep.of_wr W7).1) (Keep.of_wr W8).1) (Keep.of_wr W9).1) (Keep.of_wr W10).1) (Keep.of_wr W11).1) (Keep.of_wr W12).1) (Keep.of_wr W13).1) (Keep.of_wr W14).1) (Keep.of_wr W15).1) (Keep.of_wr W16).1) (Keep.of_wr W17).1) (Keep.of_wr W18).1) (Keep.of_wr W19).1) (Keep.of_wr W20).1) (OF.ext EK) HS) hZ (hw _ (List.mem_of_getElem? (i := 16) rfl)) (hw _ (List.mem_of_getElem? (i := 15) rfl)) (by decide) (by decide)) (g := (mkF m 145 #[.val (.int p1), .val (.int p2), .val (.ref b3), .val (.int (p2 &&& (31 : Int32))), .val (.int w21)] [(.int w21), .null])) rfl (by rw [hml]; rfl) (argsL := [(.int w21)]) (rest := [.null]) (lenOf pd_0_0 rfl) rfl (by show 2 * 0 + _ ≤ _; exact Nat.le_of_eq rfl) (hb hby at_145) (fun _ _ => ⟨rfl, eq22, (by decide : 1 + 0 ≤ _), (by decide : 17 + 0 ≤ _)⟩)
  dsimp only [Pt.U, Pt.locs, Pt.cells, Pt.slots] at X23 l23 y23 z23 st23 hQ23
  subst l23 y23 z23
  obtain ⟨rfl, N23q, eq23⟩ := hQ23
  have N23 := Fr.app N22 N23q
  obtain ⟨fs, hr, hrun, hended, hW, hsame⟩ := X23.leave (v := some (.int (1 : Int32))) (fun h => by rw [Bd.returns] at h; cases h)
  refine ⟨_, _, pre0 _ ?_, hrun, hended, _, _, rfl, ?_, ⟨_, rfl⟩, hW, hsame.mono (by decide) (by decide)⟩
  · show Steps p.tables e below (s₁.setTop (mkF m 0 #[.val (.int p1), .val (.int p2), .unset, .unset, .unset] [])) _
    refine XS.bipush X0.here hx rfl (hb hby at_0) ?_
    show Steps p.tables e below (s₁.setTop (mkF m 2 #[.val (.int p1), .val (.int p2), .unset, .unset, .unset] [(.int (17 : Int32))])) _
    refine st3 _ ?_
    show Steps p.tables e below (T3.setTop (mkF m 4 #[.val (.int p1), .val (.int p2), .unset, .unset, .unset] [(.ref b3)])) _
    refine XS.dup X3.here hx rfl (hb hby at_4) rfl rfl ?_
    show Steps p.tables e below (T3.setTop (mkF m 5 #[.val (.int p1), .val (.int p2), .unset, .unset, .unset] [(.ref b3), (.ref b3)])) _
    refine XS.iconst X3.here hx rfl (hb hby at_5) ?_
    show Steps p.tables e below (T3.setTop (mkF m 6 #[.val (.int p1), .val (.int p2), .unset, .unset, .unset] [(.int (0 : Int32)), (.ref b3), (.ref b3)])) _
    refine XS.iconst X3.here hx rfl (hb hby at_6) ?_
    show Steps p.tables e below (T3.setTop (mkF m 7 #[.val (.int p1), .val (.int p2), .unset, .unset, .unset] [(.int (1 : Int32)), (.int (0 : Int32)), (.ref b3), (.ref b3)])) _
    refine st4 _ ?_
    show Steps p.tables e below (T4.setTop (mkF m 8 #[.val (.int p1), .val (.int p2), .unset, .unset, .unset] [(.ref b3)])) _
    refine XS.dup X4.here hx rfl (hb hby at_8) rfl rfl ?_
    show Steps p.tables e below (T4.setTop (mkF m 9 #[.val (.int p1), .val (.int p2), .unset, .unset, .unset] [(.ref b3), (.ref b3)])) _
    refine XS.iconst X4.here hx rfl (hb hby at_9) ?_
    show Steps p.tables e below (T4.setTop (mkF m 10 #[.val (.int p1), .val (.int p2), .unset, .unset, .unset] [(.int (1 : Int32)), (.ref b3), (.ref b3)])) _
    refine XS.iconst X4.here hx rfl (hb hby at_10) ?_
    show Steps p.tables e below (T4.setTop (mkF m 11 #[.val (.int p1), .val (.int p2), .unset, .unset, .unset] [(.int (2 : Int32)), (.int (1 : Int32)), (.ref b3), (.ref b3)])) _
    refine st5 _ ?_
    show Steps p.tables e below (T5.setTop (mkF m 12 #[.val (.int p1), .val (.int p2), .unset, .unset, .unset] [(.ref b3)])) _
    refine XS.dup X5.here hx rfl (hb hby at_12) rfl rfl ?_
    show Steps p.tables e below (T5.setTop (mkF m 13 #[.val (.int p1), .val (.int p2), .unset, .unset, .unset] [(.ref b3), (.ref b3)])) _
    refine XS.iconst X5.here hx rfl (hb hby at_13) ?_
    show Steps p.tables e below (T5.setTop (mkF m 14 #[.val (.int p1), .val (.int p2), .unset, .unset, .unset] [(.int (2 : Int32)), (.ref b3), (.ref b3)])) _
    refine XS.iconst X5.here hx rfl (hb hby at_14) ?_
    show Steps p.tables e below (T5.setTop (mkF m 15 #[.val (.int p1), .val (.int p2), .unset, .unset, .unset] [(.int (3 : Int32)), (.int (2 : Int32)), (.ref b3), (.ref b3)])) _
    refine st6 _ ?_
    show Steps p.tables e below (T6.setTop (mkF m 16 #[.val (.int p1), .val (.int p2), .unset, .unset, .unset] [(.ref b3)])) _
    refine XS.dup X6.here hx rfl (hb hby at_16) rfl rfl ?_
    show Steps p.tables e below (T6.setTop (mkF m 17 #[.val (.int p1), .val (.int p2), .unset, .unset, .unset] [(.ref b3), (.ref b3)])) _
    refine XS.iconst X6.here hx rfl (hb hby at_17) ?_
    show Steps p.tables e below (T6.setTop (mkF m 18 #[.val (.int p1), .val (.int p2), .unset, .unset, .unset] [(.int (3 : Int32)), (.ref b3), (.ref b3)])) _
    refine XS.iconst X6.here hx rfl (hb hby at_18) ?_
    show Steps p.tables e below (T6.setTop (mkF m 19 #[.val (.int p1), .val (.int p2), .unset, .unset, .unset] [(.int (4 : Int32)), (.int (3 : Int32)), (.ref b3), (.ref b3)])) _
    refine st7 _ ?_
    show Steps p.tables e below (T7.setTop (mkF m 20 #[.val (.int p1), .val (.int p2), .unset, .unset, .unset] [(.ref b3)])) _
    refine XS.dup X7.here hx rfl (hb hby at_20) rfl rfl ?_
    show Steps p.tables e below (T7.setTop (mkF m 21 #[.val (.int p1), .val (.int p2), .unset, .unset, .unset] [(.ref b3), (.ref b3)])) _
    refine XS.iconst X7.here hx rfl (hb hby at_21) ?_
    show Steps p.tables e below (T7.setTop (mkF m 22 #[.val (.int p1), .val (.int p2), .unset, .unset, .unset] [(.int (4 : Int32)), (.ref b3), (.ref b3)])) _
    refine XS.iconst X7.here hx rfl (hb hby at_22) ?_
    show Steps p.tables e below (T7.setTop (mkF m 23 #[.val (.int p1), .val (.int p2), .unset, .unset, .unset] [(.int (5 : Int32)), (.int (4 : Int32)), (.ref b3), (.ref b3)])) _
    refine st8 _ ?_
    show Steps p.tables e below (T8.setTop (mkF m 24 #[.val (.int p1), .val (.int p2), .unset, .unset, .unset] [(.ref b3)])) _
    refine XS.dup X8.here hx rfl (hb hby at_24) rfl rfl ?_
    show Steps p.tables e below (T8.setTop (mkF m 25 #[.val (.int p1), .val (.int p2), .unset, .unset, .unset] [(.ref b3), (.ref b3)])) _
    refine XS.iconst X8.here hx rfl (hb hby at_25) ?_
    show Steps p.tables e below (T8.setTop (mkF m 26 #[.val (.int p1), .val (.int p2), .unset, .unset, .unset] [(.int (5 : Int32)), (.ref b3), (.ref b3)])) _
    refine XS.bipush X8.here hx rfl (hb hby at_26) ?_
    show Steps p.tables e below (T8.setTop (mkF m 28 #[.val (.int p1), .val (.int p2), .unset, .unset, .unset] [(.int (6 : Int32)), (.int (5 : Int32)), (.ref b3), (.ref b3)])) _
    refine st9 _ ?_
    show Steps p.tables e below (T9.setTop (mkF m 29 #[.val (.int p1), .val (.int p2), .unset, .unset, .unset] [(.ref b3)])) _
    refine XS.dup X9.here hx rfl (hb hby at_29) rfl rfl ?_
    show Steps p.tables e below (T9.setTop (mkF m 30 #[.val (.int p1), .val (.int p2), .unset, .unset, .unset] [(.ref b3), (.ref b3)])) _
    refine XS.bipush X9.here hx rfl (hb hby at_30) ?_
    show Steps p.tables e below (T9.setTop (mkF m 32 #[.val (.int p1), .val (.int p2), .unset, .unset, .unset] [(.int (6 : Int32)), (.ref b3), (.ref b3)])) _
    refine XS.bipush X9.here hx rfl (hb hby at_32) ?_
    show Steps p.tables e below (T9.setTop (mkF m 34 #[.val (.int p1), .val (.int p2), .unset, .unset, .unset] [(.int (7 : Int32)), (.int (6 : Int32)), (.ref b3), (.ref b3)])) _
    refine st10 _ ?_
    show Steps p.tables e below (T10.setTop (mkF m 35 #[.val (.int p1), .val (.int p2), .unset, .unset, .unset] [(.ref b3)])) _
    refine XS.dup X10.here hx rfl (hb hby at_35) rfl rfl ?_
    show Steps p.tables e below (T10.setTop (mkF m 36 #[.val (.int p1), .val (.int p2), .unset, .unset, .unset] [(.ref b3), (.ref b3)])) _
    refine XS.bipush X10.here hx rfl (hb hby at_36) ?_
    show Steps p.tables e below (T10.setTop (mkF m 38 #[.val (.int p1), .val (.int p2), .unset, .unset, .unset] [(.int (7 : Int32)), (.ref b3), (.ref b3)])) _
    refine XS.bipush X10.here hx rfl (hb hby at_38) ?_
    show Steps p.tables e below (T10.setTop (mkF m 40 #[.val (.int p1), .val (.int p2), .unset, .unset, .unset] [(.int (8 : Int32)), (.int (7 : Int32)), (.ref b3), (.ref b3)])) _
    refine st11 _ ?_
    show Steps p.tables e below (T11.setTop (mkF m 41 #[.val (.int p1), .val (.int p2), .unset, .unset, .unset] [(.ref b3)])) _
    refine XS.dup X11.here hx rfl (hb hby at_41) rfl rfl ?_
    show Steps p.tables e below (T11.setTop (mkF m 42 #[.val (.int p1), .val (.int p2), .unset, .unset, .unset] [(.ref b3), (.ref b3)])) _
    refine XS.bipush X11.here hx rfl (hb hby at_42) ?_
    show Steps p.tables e below (T11.setTop (mkF m 44 #[.val (.int p1), .val (.int p2), .unset, .unset, .unset] [(.int (8 : Int32)), (.ref b3), (.ref b3)])) _
    refine XS.bipush X11.here hx rfl (hb hby at_44) ?_
    show Steps p.tables e below (T11.setTop (mkF m 46 #[.val (.int p1), .val (.int p2), .unset, .unset, .unset] [(.int (9 : Int32)), (.int (8 : Int32)), (.ref b3), (.ref b3)])) _
    refine st12 _ ?_
    show Steps p.tables e below (T12.setTop (mkF m 47 #[.val (.int p1), .val (.int p2), .unset, .unset, .unset] [(.ref b3)])) _
    refine XS.dup X12.here hx rfl (hb hby at_47) rfl rfl ?_
    show Steps p.tables e below (T12.setTop (mkF m 48 #[.val (.int p1), .val (.int p2), .unset, .unset, .unset] [(.ref b3), (.ref b3)])) _
    refine XS.bipush X12.here hx rfl (hb hby at_48) ?_
    show Steps p.tables e below (T12.setTop (mkF m 50 #[.val (.int p1), .val (.int p2), .unset, .unset, .unset] [(.int (9 : Int32)), (.ref b3), (.ref b3)])) _
    refine XS.bipush X12.here hx rfl (hb hby at_50) ?_
    show Steps p.tables e below (T12.setTop (mkF m 52 #[.val (.int p1), .val (.int p2), .unset, .unset, .unset] [(.int (11 : Int32)), (.int (9 : Int32)), (.ref b3), (.ref b3)])) _
    refine st13 _ ?_
    show Steps p.tables e below (T13.setTop (mkF m 53 #[.val (.int p1), .val (.int p2), .unset, .unset, .unset] [(.ref b3)])) _
    refine XS.dup X13.here hx rfl (hb hby at_53) rfl rfl ?_
    show Steps p.tables e below (T13.setTop (mkF m 54 #[.val (.int p1), .val (.int p2), .unset, .unset, .unset] [(.ref b3), (.ref b3)])) _
    refine XS.bipush X13.here hx rfl (hb hby at_54) ?_
    show Steps p.tables e below (T13.setTop (mkF m 56 #[.val (.int p1), .val (.int p2), .unset, .unset, .unset] [(.int (10 : Int32)), (.ref b3), (.ref b3)])) _
    refine XS.bipush X13.here hx rfl (hb hby at_56) ?_
    show Steps p.tables e below (T13.setTop (mkF m 58 #[.val (.int p1), .val (.int p2), .unset, .unset, .unset] [(.int (12 : Int32)), (.int (10 : Int32)), (.ref b3), (.ref b3)])) _
    refine st14 _ ?_
    show Steps p.tables e below (T14.setTop (mkF m 59 #[.val (.int p1), .val (.int p2), .unset, .unset, .unset] [(.ref b3)])) _
    refine XS.dup X14.here hx rfl (hb hby at_59) rfl rfl ?_
    show Steps p.tables e below (T14.setTop (mkF m 60 #[.val (.int p1), .val (.int p2), .unset, .unset, .unset] [(.ref b3), (.ref b3)])) _
    refine XS.bipush X14.here hx rfl (hb hby at_60) ?_
    show Steps p.tables e below (T14.setTop (mkF m 62 #[.val (.int p1), .val (.int p2), .unset, .unset, .unset] [(.int (11 : Int32)), (.ref b3), (.ref b3)])) _
    refine XS.bipush X14.here hx rfl (hb hby at_62) ?_
    show Steps p.tables e below (T14.setTop (mkF m 64 #[.val (.int p1), .val (.int p2), .unset, .unset, .unset] [(.int (13 : Int32)), (.int (11 : Int32)), (.ref b3), (.ref b3)])) _
    refine st15 _ ?_
    show Steps p.tables e below (T15.setTop (mkF m 65 #[.val (.int p1), .val (.int p2), .unset, .unset, .unset] [(.ref b3)])) _
    refine XS.dup X15.here hx rfl (hb hby at_65) rfl rfl ?_
    show Steps p.tables e below (T15.setTop (mkF m 66 #[.val (.int p1), .val (.int p2), .unset, .unset, .unset] [(.ref b3), (.ref b3)])) _
    refine XS.bipush X15.here hx rfl (hb hby at_66) ?_
    show Steps p.tables e below (T15.setTop (mkF m 68 #[.val (.int p1), .val (.int p2), .unset, .unset, .unset] [(.int (12 : Int32)), (.ref b3), (.ref b3)])) _
    refine XS.bipush X15.here hx rfl (hb hby at_68) ?_
    show Steps p.tables e below (T15.setTop (mkF m 70 #[.val (.int p1), .val (.int p2), .unset, .unset, .unset] [(.int (14 : Int32)), (.int (12 : Int32)), (.ref b3), (.ref b3)])) _
    refine st16 _ ?_
    show Steps p.tables e below (T16.setTop (mkF m 71 #[.val (.int p1), .val (.int p2), .unset, .unset, .unset] [(.ref b3)])) _
    refine XS.dup X16.here hx rfl (hb hby at_71) rfl rfl ?_
    show Steps p.tables e below (T16.setTop (mkF m 72 #[.val (.int p1), .val (.int p2), .unset, .unset, .unset] [(.ref b3), (.ref b3)])) _
    refine XS.bipush X16.here hx rfl (hb hby at_72) ?_
    show Steps p.tables e below (T16.setTop (mkF m 74 #[.val (.int p1), .val (.int p2), .unset, .unset, .unset] [(.int (13 : Int32)), (.ref b3), (.ref b3)])) _
    refine XS.bipush X16.here hx rfl (hb hby at_74) ?_
    show Steps p.tables e below (T16.setTop (mkF m 76 #[.val (.int p1), .val (.int p2), .unset, .unset, .unset] [(.int (15 : Int32)), (.int (13 : Int32)), (.ref b3), (.ref b3)])) _
    refine st17 _ ?_
    show Steps p.tables e below (T17.setTop (mkF m 77 #[.val (.int p1), .val (.int p2), .unset, .unset, .unset] [(.ref b3)])) _
    refine XS.dup X17.here hx rfl (hb hby at_77) rfl rfl ?_
    show Steps p.tables e below (T17.setTop (mkF m 78 #[.val (.int p1), .val (.int p2), .unset, .unset, .unset] [(.ref b3), (.ref b3)])) _
    refine XS.bipush X17.here hx rfl (hb hby at_78) ?_
    show Steps p.tables e below (T17.setTop (mkF m 80 #[.val (.int p1), .val (.int p2), .unset, .unset, .unset] [(.int (14 : Int32)), (.ref b3), (.ref b3)])) _
    refine XS.bipush X17.here hx rfl (hb hby at_80) ?_
    show Steps p.tables e below (T17.setTop (mkF m 82 #[.val (.int p1), .val (.int p2), .unset, .unset, .unset] [(.int (100 : Int32)), (.int (14 : Int32)), (.ref b3), (.ref b3)])) _
    refine st18 _ ?_
    show Steps p.tables e below (T18.setTop (mkF m 83 #[.val (.int p1), .val (.int p2), .unset, .unset, .unset] [(.ref b3)])) _
    refine XS.dup X18.here hx rfl (hb hby at_83) rfl rfl ?_
    show Steps p.tables e below (T18.setTop (mkF m 84 #[.val (.int p1), .val (.int p2), .unset, .unset, .unset] [(.ref b3), (.ref b3)])) _
    refine XS.bipush X18.here hx rfl (hb hby at_84) ?_
    show Steps p.tables e below (T18.setTop (mkF m 86 #[.val (.int p1), .val (.int p2), .unset, .unset, .unset] [(.int (15 : Int32)), (.ref b3), (.ref b3)])) _
    refine XS.bipush X18.here hx rfl (hb hby at_86) ?_
    show Steps p.tables e below (T18.setTop (mkF m 88 #[.val (.int p1), .val (.int p2), .unset, .unset, .unset] [(.int (101 : Int32)), (.int (15 : Int32)), (.ref b3), (.ref b3)])) _
    refine st19 _ ?_
    show Steps p.tables e below (T19.setTop (mkF m 89 #[.val (.int p1), .val (.int p2), .unset, .unset, .unset] [(.ref b3)])) _
    refine XS.dup X19.here hx rfl (hb hby at_89) rfl rfl ?_
    show Steps p.tables e below (T19.setTop (mkF m 90 #[.val (.int p1), .val (.int p2), .unset, .unset, .unset] [(.ref b3), (.ref b3)])) _
    refine XS.bipush X19.here hx rfl (hb hby at_90) ?_
    show Steps p.tables e below (T19.setTop (mkF m 92 #[.val (.int p1), .val (.int p2), .unset, .unset, .unset] [(.int (16 : Int32)), (.ref b3), (.ref b3)])) _
    refine XS.bipush X19.here hx rfl (hb hby at_92) ?_
    show Steps p.tables e below (T19.setTop (mkF m 94 #[.val (.int p1), .val (.int p2), .unset, .unset, .unset] [(.int (-11 : Int32)), (.int (16 : Int32)), (.ref b3), (.ref b3)])) _
    refine st20 _ ?_
    show Steps p.tables e below (T20.setTop (mkF m 95 #[.val (.int p1), .val (.int p2), .unset, .unset, .unset] [(.ref b3)])) _
    refine XS.astoreN X20.here hx rfl (hb hby at_95) rfl rfl (l' := #[.val (.int p1), .val (.int p2), .val (.ref b3), .unset, .unset]) rfl ?_
    show Steps p.tables e below (T20.setTop (mkF m 96 #[.val (.int p1), .val (.int p2), .val (.ref b3), .unset, .unset] [])) _
    refine XS.iloadN X20.here hx rfl (hb hby at_96) rfl ?_
    show Steps p.tables e below (T20.setTop (mkF m 97 #[.val (.int p1), .val (.int p2), .val (.ref b3), .unset, .unset] [(.int p2)])) _
    refine XS.bipush X20.here hx rfl (hb hby at_97) ?_
    show Steps p.tables e below (T20.setTop (mkF m 99 #[.val (.int p1), .val (.int p2), .val (.ref b3), .unset, .unset] [(.int (31 : Int32)), (.int p2)])) _
    refine XS.iand X20.here hx rfl (hb hby at_99) rfl ?_
    show Steps p.tables e below (T20.setTop (mkF m 100 #[.val (.int p1), .val (.int p2), .val (.ref b3), .unset, .unset] [(.int (p2 &&& (31 : Int32)))])) _
    refine XS.istoreN X20.here hx rfl (hb hby at_100) rfl (l' := #[.val (.int p1), .val (.int p2), .val (.ref b3), .val (.int (p2 &&& (31 : Int32))), .unset]) rfl ?_
    show Steps p.tables e below (T20.setTop (mkF m 101 #[.val (.int p1), .val (.int p2), .val (.ref b3), .val (.int (p2 &&& (31 : Int32))), .unset] [])) _
    refine XS.iloadN X20.here hx rfl (hb hby at_101) rfl ?_
    show Steps p.tables e below (T20.setTop (mkF m 102 #[.val (.int p1), .val (.int p2), .val (.ref b3), .val (.int (p2 &&& (31 : Int32))), .unset] [(.int (p2 &&& (31 : Int32)))])) _
    refine XS.bipush X20.here hx rfl (hb hby at_102) ?_
    show Steps p.tables e below (T20.setTop (mkF m 104 #[.val (.int p1), .val (.int p2), .val (.ref b3), .val (.int (p2 &&& (31 : Int32))), .unset] [(.int (17 : Int32)), (.int (p2 &&& (31 : Int32)))])) _
    refine XS.icmpNo X20.here hx rfl (hb hby at_104) rfl (tlt hc104).2.1 ?_
    show Steps p.tables e below (T20.setTop (mkF m 107 #[.val (.int p1), .val (.int p2), .val (.ref b3), .val (.int (p2 &&& (31 : Int32))), .unset] [])) _
    refine XS.aloadN X20.here hx rfl (hb hby at_107) rfl rfl ?_
    show Steps p.tables e below (T20.setTop (mkF m 108 #[.val (.int p1), .val (.int p2), .val (.ref b3), .val (.int (p2 &&& (31 : Int32))), .unset] [(.ref b3)])) _
    refine XS.iloadN X20.here hx rfl (hb hby at_108) rfl ?_
    show Steps p.tables e below (T20.setTop (mkF m 109 #[.val (.int p1), .val (.int p2), .val (.ref b3), .val (.int (p2 &&& (31 : Int32))), .unset] [(.int (p2 &&& (31 : Int32))), (.ref b3)])) _
    refine X20.iaload hx (j := (p2 &&& (31 : Int32))) (v := (.int w21)) (by rw [e20]; exact Ar_b3_109.1) (State.isArrayOf_alike hZ.alike Ar_b3_109.2.1) Ar_b3_109.2.2 hin109 hat109 (g := (mkF m 109 #[.val (.int p1), .val (.int p2), .val (.ref b3), .val (.int (p2 &&& (31 : Int32))), .unset] [(.int (p2 &&& (31 : Int32))), (.ref b3)])) rfl rfl (hb hby at_109) _ ?_
    show Steps p.tables e below (T20.setTop (mkF m 110 #[.val (.int p1), .val (.int p2), .val (.ref b3), .val (.int (p2 &&& (31 : Int32))), .unset] [(.int w21)])) _
    refine XS.istore X20.here hx rfl (hb hby at_110) rfl (l' := #[.val (.int p1), .val (.int p2), .val (.ref b3), .val (.int (p2 &&& (31 : Int32))), .val (.int w21)]) rfl ?_
    show Steps p.tables e below (T20.setTop (mkF m 112 #[.val (.int p1), .val (.int p2), .val (.ref b3), .val (.int (p2 &&& (31 : Int32))), .val (.int w21)] [])) _
    refine XS.goto X20.here hx rfl (pc0 := 112) (pc' := 138) rfl (hb hby at_112) (by decide) (by decide) ?_
    show Steps p.tables e below (T20.setTop (mkF m 138 #[.val (.int p1), .val (.int p2), .val (.ref b3), .val (.int (p2 &&& (31 : Int32))), .val (.int w21)] [])) _
    refine XS.iload X20.here hx rfl (hb hby at_138) rfl ?_
    show Steps p.tables e below (T20.setTop (mkF m 140 #[.val (.int p1), .val (.int p2), .val (.ref b3), .val (.int (p2 &&& (31 : Int32))), .val (.int w21)] [(.int w21)])) _
    refine st22 _ ?_
    show Steps p.tables e below (T22.setTop (mkF m 143 #[.val (.int p1), .val (.int p2), .val (.ref b3), .val (.int (p2 &&& (31 : Int32))), .val (.int w21)] [.null])) _
    refine XS.iload X22.here hx rfl (hb hby at_143) rfl ?_
    show Steps p.tables e below (T22.setTop (mkF m 145 #[.val (.int p1), .val (.int p2), .val (.ref b3), .val (.int (p2 &&& (31 : Int32))), .val (.int w21)] [(.int w21), .null])) _
    refine st23 _ ?_
    show Steps p.tables e below (T23.setTop (mkF m 148 #[.val (.int p1), .val (.int p2), .val (.ref b3), .val (.int (p2 &&& (31 : Int32))), .val (.int w21)] [.null, .null])) _
    refine Jvm.RoadKit.acmp (g := (mkF m 148 #[.val (.int p1), .val (.int p2), .val (.ref b3), .val (.int (p2 &&& (31 : Int32))), .val (.int w21)] [.null, .null])) X23 hx rfl rfl rfl (pc0 := 148) (pc' := 151) (same := true) rfl (hb hby at_148) rfl (decide_eq_true rfl) (by decide) (by decide) ?_
    show Steps p.tables e below (T23.setTop (mkF m 151 #[.val (.int p1), .val (.int p2), .val (.ref b3), .val (.int (p2 &&& (31 : Int32))), .val (.int w21)] [])) _
    refine XS.iconst X23.here hx rfl (hb hby at_151) ?_
    show Steps p.tables e below (T23.setTop (mkF m 152 #[.val (.int p1), .val (.int p2), .val (.ref b3), .val (.int (p2 &&& (31 : Int32))), .val (.int w21)] [(.int (1 : Int32))])) _
    refine XS.goto X23.here hx rfl (pc0 := 152) (pc' := 156) rfl (hb hby at_152) (by decide) (by decide) ?_
    show Steps p.tables e below (T23.setTop (mkF m 156 #[.val (.int p1), .val (.int p2), .val (.ref b3), .val (.int (p2 &&& (31 : Int32))), .val (.int w21)] [(.int (1 : Int32))])) _
    exact retN X23 hx (t := .boolean) Bd.returns (by simp) (hb hby at_156) hr
  · show Q0 n0 _ T23.heap _
    rw [eq23]
    exact ⟨rfl, N23⟩

set_option maxRecDepth 65536 in
set_option maxHeartbeats 40000000 in
theorem rm0_10 (l : Launch) (Z : State) (a0 : Array Value) (hw : ∀ d ∈ tables_1, d.before a0 Z = true) (ws : List Jvm.Cond) (p1 : Int32) (p2 : Int32) (aA : Addr) (cl : Cell) (w : Nat → Addr) (ww : Addr) (h0 : Heap) (n0 : Nat) (Z0 : n0 ≤ h0.size) (OF : OpF Z h0 aA cl w) (HS : Spc w ((p1 &&& (255 : Int32)) - (128 : Int32)) (.ref ww)) (hc104 : ¬ ((p2 &&& (31 : Int32)) < (17 : Int32))) (hc118 : (p2 &&& (31 : Int32)) < (24 : Int32)) :
    MetFree l x (head1 (Jvm.Cond.code x code maxLocals ret :: ws) room_1) (fun a U => a = #[(.int p1), (.int p2)] ∧ Z.Warmed39 U.vm ∧ U.heap = h0) (fun _ _ _ _ _ => True) (fun _ U o U' => ∃ v L, o = .returned v ∧ Q0 n0 v U'.heap L ∧ FrameEnd U o U' L room_1.cells room_1.slots) := by
  refine MetFree.of_bodySF (plainFor_of_name pn_0) hisR ?_
  intro p e s m args below meth c s₁ Bd hml0 hP hK
  obtain ⟨rfl, hZ, hh⟩ := hP
  have hx := Bd.exec
  have hby := Bd.bytes
  have hml : c.maxLocals = 5 := hml0
  have hown : s.vm.findClass "com/example/ulmus/ulmus/core/wire/OpCodeOfPinLaw" = some m.cls := findClass_of_methodNamed Bd.named
  have hnm := (name_of_methodNamed Bd.named Bd.method).1
  have X0 : Stand p l e room_1 s m #[(.int p1), (.int p2)] below meth c s₁ [] 0 0 := Stand.of_body Bd
  have e0 : s₁.heap = h0 := by rw [← hh, Bd.state]; rfl
  have N0 := Fr.nil n0
  have pre0 : ∀ t, Steps p.tables e below (s₁.setTop (mkF m 0 #[.val (.int p1), .val (.int p2), .unset, .unset, .unset] [])) t → Steps p.tables e below (s₁.setTop (entryFrame m #[(.int p1), (.int p2)] maxLocals)) t := fun t k => castTop (ef_0 m p1 p2) k
  obtain ⟨T3, h3, k3, X3, e3, E3, A3, st3⟩ := newP X0 hx hZ (hw _ (List.mem_of_getElem? (i := 0) rfl)) e0 (g := (mkF m 2 #[.val (.int p1), .val (.int p2), .unset, .unset, .unset] [(.int (17 : Int32))])) rfl (hb hby at_2) rfl (by decide) (cap := 17) (by decide) (by decide) (by decide) (by decide)
  obtain ⟨b3, g3⟩ : ∃ z, z = h0.size := ⟨_, rfl⟩      -- the fresh array's address
  rw [← g3] at A3 st3
  have V_b3 : Arv Z h3 b3 k3 .int (17 : Int32) [(.int (0 : Int32)), (.int (0 : Int32)), (.int (0 : Int32)), (.int (0 : Int32)), (.int (0 : Int32)), (.int (0 : Int32)), (.int (0 : Int32)), (.int (0 : Int32)), (.int (0 : Int32)), (.int (0 : Int32)), (.int (0 : Int32)), (.int (0 : Int32)), (.int (0 : Int32)), (.int (0 : Int32)), (.int (0 : Int32)), (.int (0 : Int32)), (.int (0 : Int32))] (.int (0 : Int32)) := (Arv.new A3 (by decide)).pad (pad_rep [] (.int (0 : Int32)) 17)
  have g_b3 : n0 ≤ b3 := Nat.le_trans Z0 (Nat.le_of_eq g3.symm)
  have sz_b3 : h0.size ≤ b3 := (Nat.le_trans (Keep.refl h0 []).1 (Nat.le_of_eq g3.symm))
  have K3 : Keep h0 h3 [] := (Keep.refl h0 []).ext E3
  obtain ⟨cl_b3_7, Ar_b3, q_b3, S_b3, N_b3, H_b3, G_b3⟩ := V_b3      -- open the array's fact as it stands now (its cell, kind, length, elements)
  have hin7 : ¬ ((0 : Int32) < 0 ∨ cl_b3_7.slots.size ≤ ((0 : Int32)).toNatClampNeg) := inb_of S_b3 ⟨by decide, by decide⟩
  obtain ⟨T4, h4, X4, e4, W4, st4⟩ := stI X3 hx hZ e3 Ar_b3 (j := (0 : Int32)) hin7 (g := (mkF m 7 #[.val (.int p1), .val (.int p2), .unset, .unset, .unset] [(.int (1 : Int32)), (.int (0 : Int32)), (.ref b3), (.ref b3)])) rfl rfl (hb hby at_7)
  have V_b3_4 := Arv.set Ar_b3 q_b3 S_b3 N_b3 H_b3 G_b3 rfl W4 0 rfl (Nat.le_of_ble_eq_true rfl)      -- the array as it stands now (the place must lie among its first values: Arv.pad with pad_rep lengthens them)
  have K4 : Keep h0 h4 [] := K3.wr W4 (Or.inr sz_b3)
  have N4 := Fr.snoc X4 N0 g_b3
  obtain ⟨cl_b3_11, Ar_b3, q_b3, S_b3, N_b3, H_b3, G_b3⟩ := V_b3_4      -- open the array's fact as it stands now (its cell, kind, length, elements)
  have hin11 : ¬ ((1 : Int32) < 0 ∨ cl_b3_11.slots.size ≤ ((1 : Int32)).toNatClampNeg) := inb_of S_b3 ⟨by decide, by decide⟩
  obtain ⟨T5, h5, X5, e5, W5, st5⟩ := stI X4 hx hZ e4 Ar_b3 (j := (1 : Int32)) hin11 (g := (mkF m 11 #[.val (.int p1), .val (.int p2), .unset, .unset, .unset] [(.int (2 : Int32)), (.int (1 : Int32)), (.ref b3), (.ref b3)])) rfl rfl (hb hby at_11)
  have V_b3_5 := Arv.set Ar_b3 q_b3 S_b3 N_b3 H_b3 G_b3 rfl W5 1 rfl (Nat.le_of_ble_eq_true rfl)      -- the array as it stands now (the place must lie among its first values: Arv.pad with pad_rep lengthens them)
  have K5 : Keep h0 h5 [] := K4.wr W5 (Or.inr sz_b3)
  have N5 := Fr.snoc X5 N4 g_b3
  obtain ⟨cl_b3_15, Ar_b3, q_b3, S_b3, N_b3, H_b3, G_b3⟩ := V_b3_5      -- open the array's fact as it stands now (its cell, kind, length, elements)
  have hin15 : ¬ ((2 : Int32) < 0 ∨ cl_b3_15.slots.size ≤ ((2 : Int32)).toNatClampNeg) := inb_of S_b3 ⟨by decide, by decide⟩
  obtain ⟨T6, h6, X6, e6, W6, st6⟩ := stI X5 hx hZ e5 Ar_b3 (j := (2 : Int32)) hin15 (g := (mkF m 15 #[.val (.int p1), .val (.int p2), .unset, .unset, .unset] [(.int (3 : Int32)), (.int (2 : Int32)), (.ref b3), (.ref b3)])) rfl rfl (hb hby at_15)
  have V_b3_6 := Arv.set Ar_b3 q_b3 S_b3 N_b3 H_b3 G_b3 rfl W6 2 rfl (Nat.le_of_ble_eq_true rfl)      -- the array as it stands now (the place must lie among its first values: Arv.pad with pad_rep lengthens them)
  have K6 : Keep h0 h6 [] := K5.wr W6 (Or.inr sz_b3)
  have N6 := Fr.snoc X6 N5 g_b3
  obtain ⟨cl_b3_19, Ar_b3, q_b3, S_b3, N_b3, H_b3, G_b3⟩ := V_b3_6      -- open the array's fact as it stands now (its cell, kind, length, elements)
  have hin19 : ¬ ((3 : Int32) < 0 ∨ cl_b3_19.slots.size ≤ ((3 : Int32)).toNatClampNeg) := inb_of S_b3 ⟨by decide, by decide⟩
  obtain ⟨T7, h7, X7, e7, W7, st7⟩ := stI X6 hx hZ e6 Ar_b3 (j := (3 : Int32)) hin19 (g := (mkF m 19 #[.val (.int p1), .val (.int p2), .unset, .unset, .unset] [(.int (4 : Int32)), (.int (3 : Int32)), (.ref b3), (.ref b3)])) rfl rfl (hb hby at_19)
  have V_b3_7 := Arv.set Ar_b3 q_b3 S_b3 N_b3 H_b3 G_b3 rfl W7 3 rfl (Nat.le_of_ble_eq_true rfl)      -- the array as it stands now (the place must lie among its first values: Arv.pad with pad_rep lengthens them)
  have K7 : Keep h0 h7 [] := K6.wr W7 (Or.inr sz_b3)
  have N7 := Fr.snoc X7 N6 g_b3
  obtain ⟨cl_b3_23, Ar_b3, q_b3, S_b3, N_b3, H_b3, G_b3⟩ := V_b3_7      -- open the array's fact as it stands now (its cell, kind, length, elements)
  have hin23 : ¬ ((4 : Int32) < 0 ∨ cl_b3_23.slots.size ≤ ((4 : Int32)).toNatClampNeg) := inb_of S_b3 ⟨by decide, by decide⟩
  obtain ⟨T8, h8, X8, e8, W8, st8⟩ := stI X7 hx hZ e7 Ar_b3 (j := (4 : Int32)) hin23 (g := (mkF m 23 #[.val (.int p1), .val (.int p2), .unset, .unset, .unset] [(.int (5 : Int32)), (.int (4 : Int32)), (.ref b3), (.ref b3)])) rfl rfl (hb hby at_23)
  have V_b3_8 := Arv.set Ar_b3 q_b3 S_b3 N_b3 H_b3 G_b3 rfl W8 4 rfl (Nat.le_of_ble_eq_true rfl)      -- the array as it stands now (the place must lie among its first values: Arv.pad with pad_rep lengthens them)
  have K8 : Keep h0 h8 [] := K7.wr W8 (Or.inr sz_b3)
  have N8 := Fr.snoc X8 N7 g_b3
  obtain ⟨cl_b3_28, Ar_b3, q_b3, S_b3, N_b3, H_b3, G_b3⟩ := V_b3_8      -- open the array's fact as it stands now (its cell, kind, length, elements)
  have hin28 : ¬ ((5 : Int32) < 0 ∨ cl_b3_28.slots.size ≤ ((5 : Int32)).toNatClampNeg) := inb_of S_b3 ⟨by decide, by decide⟩
  obtain ⟨T9, h9, X9, e9, W9, st9⟩ := stI X8 hx hZ e8 Ar_b3 (j := (5 : Int32)) hin28 (g := (mkF m 28 #[.val (.int p1), .val (.int p2), .unset, .unset, .unset] [(.int (6 : Int32)), (.int (5 : Int32)), (.ref b3), (.ref b3)])) rfl rfl (hb hby at_28)
  have V_b3_9 := Arv.set Ar_b3 q_b3 S_b3 N_b3 H_b3 G_b3 rfl W9 5 rfl (Nat.le_of_ble_eq_true rfl)      -- the array as it stands now (the place must lie among its first values: Arv.pad with pad_rep lengthens them)
  have K9 : Keep h0 h9 [] := K8.wr W9 (Or.inr sz_b3)
  have N9 := Fr.snoc X9 N8 g_b3
  obtain ⟨cl_b3_34, Ar_b3, q_b3, S_b3, N_b3, H_b3, G_b3⟩ := V_b3_9      -- open the array's fact as it stands now (its cell, kind, length, elements)
  have hin34 : ¬ ((6 : Int32) < 0 ∨ cl_b3_34.slots.size ≤ ((6 : Int32)).toNatClampNeg) := inb_of S_b3 ⟨by decide, by decide⟩
  obtain ⟨T10, h10, X10, e10, W10, st10⟩ := stI X9 hx hZ e9 Ar_b3 (j := (6 : Int32)) hin34 (g := (mkF m 34 #[.val (.int p1), .val (.int p2), .unset, .unset, .unset] [(.int (7 : Int32)), (.int (6 : Int32)), (.ref b3), (.ref b3)])) rfl rfl (hb hby at_34)
  have V_b3_10 := Arv.set Ar_b3 q_b3 S_b3 N_b3 H_b3 G_b3 rfl W10 6 rfl (Nat.le_of_ble_eq_true rfl)      -- the array as it stands now (the place must lie among its first values: Arv.pad with pad_rep lengthens them)
  have K10 : Keep h0 h10 [] := K9.wr W10 (Or.inr sz_b3)
  have N10 := Fr.snoc X10 N9 g_b3
  obtain ⟨cl_b3_40, Ar_b3, q_b3, S_b3, N_b3, H_b3, G_b3⟩ := V_b3_10      -- open the array's fact as it stands now (its cell, kind, length, elements)
  have hin40 : ¬ ((7 : Int32) < 0 ∨ cl_b3_40.slots.size ≤ ((7 : Int32)).toNatClampNeg) := inb_of S_b3 ⟨by decide, by decide⟩
  obtain ⟨T11, h11, X11, e11, W11, st11⟩ := stI X10 hx hZ e10 Ar_b3 (j := (7 : Int32)) hin40 (g := (mkF m 40 #[.val (.int p1), .val (.int p2), .unset, .unset, .unset] [(.int (8 : Int32)), (.int (7 : Int32)), (.ref b3), (.ref b3)])) rfl rfl (hb hby at_40)
  have V_b3_11 := Arv.set Ar_b3 q_b3 S_b3 N_b3 H_b3 G_b3 rfl W11 7 rfl (Nat.le_of_ble_eq_true rfl)      -- the array as it stands now (the place must lie among its first values: Arv.pad with pad_rep lengthens them)
  have K11 : Keep h0 h11 [] := K10.wr W11 (Or.inr sz_b3)
  have N11 := Fr.snoc X11 N10 g_b3
  obtain ⟨cl_b3_46, Ar_b3, q_b3, S_b3, N_b3, H_b3, G_b3⟩ := V_b3_11      -- open the array's fact as it stands now (its cell, kind, length, elements)
  have hin46 : ¬ ((8 : Int32) < 0 ∨ cl_b3_46.slots.size ≤ ((8 : Int32)).toNatClampNeg) := inb_of S_b3 ⟨by decide, by decide⟩
  obtain ⟨T12, h12, X12, e12, W12, st12⟩ := stI X11 hx hZ e11 Ar_b3 (j := (8 : Int32)) hin46 (g := (mkF m 46 #[.val (.int p1), .val (.int p2), .unset, .unset, .unset] [(.int (9 : Int32)), (.int (8 : Int32)), (.ref b3), (.ref b3)])) rfl rfl (hb hby at_46)
  have V_b3_12 := Arv.set Ar_b3 q_b3 S_b3 N_b3 H_b3 G_b3 rfl W12 8 rfl (Nat.le_of_ble_eq_true rfl)      -- the array as it stands now (the place must lie among its first values: Arv.pad with pad_rep lengthens them)
  have K12 : Keep h0 h12 [] := K11.wr W12 (Or.inr sz_b3)
  have N12 := Fr.snoc X12 N11 g_b3
  obtain ⟨cl_b3_52, Ar_b3, q_b3, S_b3, N_b3, H_b3, G_b3⟩ := V_b3_12      -- open the array's fact as it stands now (its cell, kind, length, elements)
  have hin52 : ¬ ((9 : Int32) < 0 ∨ cl_b3_52.slots.size ≤ ((9 : Int32)).toNatClampNeg) := inb_of S_b3 ⟨by decide, by decide⟩
  obtain ⟨T13, h13, X13, e13, W13, st13⟩ := stI X12 hx hZ e12 Ar_b3 (j := (9 : Int32)) hin52 (g := (mkF m 52 #[.val (.int p1), .val (.int p2), .unset, .unset, .unset] [(.int (11 : Int32)), (.int (9 : Int32)), (.ref b3), (.ref b3)])) rfl rfl (hb hby at_52)
  have V_b3_13 := Arv.set Ar_b3 q_b3 S_b3 N_b3 H_b3 G_b3 rfl W13 9 rfl (Nat.le_of_ble_eq_true rfl)      -- the array as it stands now (the place must lie among its first values: Arv.pad with pad_rep lengthens them)
  have K13 : Keep h0 h13 [] := K12.wr W13 (Or.inr sz_b3)
  have N13 := Fr.snoc X13 N12 g_b3
  obtain ⟨cl_b3_58, Ar_b3, q_b3, S_b3, N_b3, H_b3, G_b3⟩ := V_b3_13      -- open the array's fact as it stands now (its cell, kind, length, elements)
  have hin58 : ¬ ((10 : Int32) < 0 ∨ cl_b3_58.slots.size ≤ ((10 : Int32)).toNatClampNeg) := inb_of S_b3 ⟨by decide, by decide⟩
  obtain ⟨T14, h14, X14, e14, W14, st14⟩ := stI X13 hx hZ e13 Ar_b3 (j := (10 : Int32)) hin58 (g := (mkF m 58 #[.val (.int p1), .val (.int p2), .unset, .unset, .unset] [(.int (12 : Int32)), (.int (10 : Int32)), (.ref b3), (.ref b3)])) rfl rfl (hb hby at_58)
  have V_b3_14 := Arv.set Ar_b3 q_b3 S_b3 N_b3 H_b3 G_b3 rfl W14 10 rfl (Nat.le_of_ble_eq_true rfl)      -- the array as it stands now (the place must lie among its first values: Arv.pad with pad_rep lengthens them)
  have K14 : Keep h0 h14 [] := K13.wr W14 (Or.inr sz_b3)
  have N14 := Fr.snoc X14 N13 g_b3
  obtain ⟨cl_b3_64, Ar_b3, q_b3, S_b3, N_b3, H_b3, G_b3⟩ := V_b3_14      -- open the array's fact as it stands now (its cell, kind, length, elements)
  have hin64 : ¬ ((11 : Int32) < 0 ∨ cl_b3_64.slots.size ≤ ((11 : Int32)).toNatClampNeg) := inb_of S_b3 ⟨by decide, by decide⟩
  obtain ⟨T15, h15, X15, e15, W15, st15⟩ := stI X14 hx hZ e14 Ar_b3 (j := (11 : Int32)) hin64 (g := (mkF m 64 #[.val (.int p1), .val (.int p2), .unset, .unset, .unset] [(.int (13 : Int32)), (.int (11 : Int32)), (.ref b3), (.ref b3)])) rfl rfl (hb hby at_64)
  have V_b3_15 := Arv.set Ar_b3 q_b3 S_b3 N_b3 H_b3 G_b3 rfl W15 11 rfl (Nat.le_of_ble_eq_true rfl)      -- the array as it stands now (the place must lie among its first values: Arv.pad with pad_rep lengthens them)
  have K15 : Keep h0 h15 [] := K14.wr W15 (Or.inr sz_b3)
  have N15 := Fr.snoc X15 N14 g_b3
  obtain ⟨cl_b3_70, Ar_b3, q_b3, S_b3, N_b3, H_b3, G_b3⟩ := V_b3_15      -- open the array's fact as it stands now (its cell, kind, length, elements)
  have hin70 : ¬ ((12 : Int32) < 0 ∨ cl_b3_70.slots.size ≤ ((12 : Int32)).toNatClampNeg) := inb_of S_b3 ⟨by decide, by decide⟩
  obtain ⟨T16, h16, X16, e16, W16, st16⟩ := stI X15 hx hZ e15 Ar_b3 (j := (12 : Int32)) hin70 (g := (mkF m 70 #[.val (.int p1), .val (.int p2), .unset, .unset, .unset] [(.int (14 : Int32)), (.int (12 : Int32)), (.ref b3), (.ref b3)])) rfl rfl (hb hby at_70)
  have V_b3_16 := Arv.set Ar_b3 q_b3 S_b3 N_b3 H_b3 G_b3 rfl W16 12 rfl (Nat.le_of_ble_eq_true rfl)      -- the array as it stands now (the place must lie among its first values: Arv.pad with pad_rep lengthens them)
  have K16 : Keep h0 h16 [] := K15.wr W16 (Or.inr sz_b3)
  have N16 := Fr.snoc X16 N15 g_b3
  obtain ⟨cl_b3_76, Ar_b3, q_b3, S_b3, N_b3, H_b3, G_b3⟩ := V_b3_16      -- open the array's fact as it stands now (its cell, kind, length, elements)
  have hin76 : ¬ ((13 : Int32) < 0 ∨ cl_b3_76.slots.size ≤ ((13 : Int32)).toNatClampNeg) := inb_of S_b3 ⟨by decide, by decide⟩
  obtain ⟨T17, h17, X17, e17, W17, st17⟩ := stI X16 hx hZ e16 Ar_b3 (j := (13 : Int32)) hin76 (g := (mkF m 76 #[.val (.int p1), .val (.int p2), .unset, .unset, .unset] [(.int (15 : Int32)), (.int (13 : Int32)), (.ref b3), (.ref b3)])) rfl rfl (hb hby at_76)
  have V_b3_17 := Arv.set Ar_b3 q_b3 S_b3 N_b3 H_b3 G_b3 rfl W17 13 rfl (Nat.le_of_ble_eq_true rfl)      -- the array as it stands now (the place must lie among its first values: Arv.pad with pad_rep lengthens them)
  have K17 : Keep h0 h17 [] := K16.wr W17 (Or.inr sz_b3)
  have N17 := Fr.snoc X17 N16 g_b3
  obtain ⟨cl_b3_82, Ar_b3, q_b3, S_b3, N_b3, H_b3, G_b3⟩ := V_b3_17      -- open the array's fact as it stands now (its cell, kind, length, elements)
  have hin82 : ¬ ((14 : Int32) < 0 ∨ cl_b3_82.slots.size ≤ ((14 : Int32)).toNatClampNeg) := inb_of S_b3 ⟨by decide, by decide⟩
  obtain ⟨T18, h18, X18, e18, W18, st18⟩ := stI X17 hx hZ e17 Ar_b3 (j := (14 : Int32)) hin82 (g := (mkF m 82 #[.val (.int p1), .val (.int p2), .unset, .unset, .unset] [(.int (100 : Int32)), (.int (14 : Int32)), (.ref b3), (.ref b3)])) rfl rfl (hb hby at_82)
  have V_b3_18 := Arv.set Ar_b3 q_b3 S_b3 N_b3 H_b3 G_b3 rfl W18 14 rfl (Nat.le_of_ble_eq_true rfl)      -- the array as it stands now (the place must lie among its first values: Arv.pad with pad_rep lengthens them)
  have K18 : Keep h0 h18 [] := K17.wr W18 (Or.inr sz_b3)
  have N18 := Fr.snoc X18 N17 g_b3
  obtain ⟨cl_b3_88, Ar_b3, q_b3, S_b3, N_b3, H_b3, G_b3⟩ := V_b3_18      -- open the array's fact as it stands now (its cell, kind, length, elements)
  have hin88 : ¬ ((15 : Int32) < 0 ∨ cl_b3_88.slots.size ≤ ((15 : Int32)).toNatClampNeg) := inb_of S_b3 ⟨by decide, by decide⟩
  obtain ⟨T19, h19, X19, e19, W19, st19⟩ := stI X18 hx hZ e18 Ar_b3 (j := (15 : Int32)) hin88 (g := (mkF m 88 #[.val (.int p1), .val (.int p2), .unset, .unset, .unset] [(.int (101 : Int32)), (.int (15 : Int32)), (.ref b3), (.ref b3)])) rfl rfl (hb hby at_88)
  have V_b3_19 := Arv.set Ar_b3 q_b3 S_b3 N_b3 H_b3 G_b3 rfl W19 15 rfl (Nat.le_of_ble_eq_true rfl)      -- the array as it stands now (the place must lie among its first values: Arv.pad with pad_rep lengthens them)
  have K19 : Keep h0 h19 [] := K18.wr W19 (Or.inr sz_b3)
  have N19 := Fr.snoc X19 N18 g_b3
  obtain ⟨cl_b3_94, Ar_b3, q_b3, S_b3, N_b3, H_b3, G_b3⟩ := V_b3_19      -- open the array's fact as it stands now (its cell, kind, length, elements)
  have hin94 : ¬ ((16 : Int32) < 0 ∨ cl_b3_94.slots.size ≤ ((16 : Int32)).toNatClampNeg) := inb_of S_b3 ⟨by decide, by decide⟩
  obtain ⟨T20, h20, X20, e20, W20, st20⟩ := stI X19 hx hZ e19 Ar_b3 (j := (16 : Int32)) hin94 (g := (mkF m 94 #[.val (.int p1), .val (.int p2), .unset, .unset, .unset] [(.int (-11 : Int32)), (.int (16 : Int32)), (.ref b3), (.ref b3)])) rfl rfl (hb hby at_94)
  have V_b3_20 := Arv.set Ar_b3 q_b3 S_b3 N_b3 H_b3 G_b3 rfl W20 16 rfl (Nat.le_of_ble_eq_true rfl)      -- the array as it stands now (the place must lie among its first values: Arv.pad with pad_rep lengthens them)
  have K20 : Keep h0 h20 [] := K19.wr W20 (Or.inr sz_b3)
  have N20 := Fr.snoc X20 N19 g_b3
  have EK : Ext h0 h20 := ⟨K20.1, fun a c q => K20.2.1 a c q nin0⟩
  -- pc 140: com/example/ulmus/ulmus/core/wire/OpCode.of by its contract rm1
  obtain ⟨_, _, ⟨T21, L21, k21, n21⟩, -, X21, ⟨Lc21, hQ21, l21, y21, z21⟩, st21⟩ := Jvm.LawKit.callS X20 hx (y := (⟨"com/example/ulmus/ulmus/core/wire/OpCode", "of", "(I)Lcom/example/ulmus/ulmus/core/wire/OpCode;"⟩ : MethodName)) hown (mvT hZ (hw _ (List.mem_of_getElem? (i := 1) rfl))) (mvT hZ (hw _ (List.mem_of_getElem? (i := 2) rfl))) (mvT hZ (hw _ (List.mem_of_getElem? (i := 3) rfl))) (mvT hZ (hw _ (List.mem_of_getElem? (i := 4) rfl))) (by decide) (backOf (W := 0) (rm1 l Z a0 hw [] ((p1 &&& (255 : Int32)) - (128 : Int32)) aA cl w (.ref ww) h20 n0 (Nat.le_trans (Nat.le_trans (Nat.le_trans (Nat.le_trans (Nat.le_trans (Nat.le_trans (Nat.le_trans (Nat.le_trans (Nat.le_trans (Nat.le_trans (Nat.le_trans (Nat.le_trans (Nat.le_trans (Nat.le_trans (Nat.le_trans (Nat.le_trans (Nat.le_trans (Nat.le_trans Z0 E3.1) (Keep.of_wr W4).1) (Keep.of_wr W5).1) (Keep.of_wr W6).1) (Keep.of_wr W7).1) (Keep.of_wr W8).1) (Keep.of_wr W9).1) (Keep.of_wr W10).1) (Keep.of_wr W11).1) (Keep.of_wr W12).1) (Keep.of_wr W13).1) (Keep.of_wr W14).1) (Keep.of_wr W15).1) (Keep.of_wr W16).1) (Keep.of_wr W17).1) (Keep.of_wr W18).1) (Keep.of_wr W19).1) (Keep.of_wr W20).1) (OF.ext EK) HS) hZ (hw _ (List.mem_of_getElem? (i := 4) rfl)) (hw _ (List.mem_of_getElem? (i := 3) rfl)) (by decide) (by decide)) (g := (mkF m 140 #[.val (.int p1), .val (.int p2), .val (.ref b3), .val (.int (p2 &&& (31 : Int32))), .val (.int ((p1 &&& (255 : Int32)) - (128 : Int32)))] [(.int ((p1 &&& (255 : Int32)) - (128 : Int32)))])) rfl (by rw [hml]; rfl) (argsL := [(.int ((p1 &&& (255 : Int32)) - (128 : Int32)))]) (rest := []) (lenOf pd_0_0 rfl) rfl (by show 2 * 0 + _ ≤ _; exact Nat.le_of_eq rfl) (hb hby at_140) (fun _ _ => ⟨rfl, e20, (by decide : 1 + 0 ≤ _), (by decide : 17 + 0 ≤ _)⟩)
  dsimp only [Pt.U, Pt.locs, Pt.cells, Pt.slots] at X21 l21 y21 z21 st21 hQ21
  subst l21 y21 z21
  obtain ⟨rfl, N21q, eq21⟩ := hQ21
  have N21 := Fr.app N20 N21q
  -- pc 145: com/example/ulmus/ulmus/core/wire/OpCodeOfPinLaw.expected by its contract rm2
  obtain ⟨_, _, ⟨T22, L22, k22, n22⟩, -, X22, ⟨Lc22, hQ22, l22, y22, z22⟩, st22⟩ := Jvm.LawKit.callS X21 hx (y := (⟨"com/example/ulmus/ulmus/core/wire/OpCodeOfPinLaw", "expected", "(I)Lcom/example/ulmus/ulmus/core/wire/OpCode;"⟩ : MethodName)) hown (mvT hZ (hw _ (List.mem_of_getElem? (i := 13) rfl))) (mvT hZ (hw _ (List.mem_of_getElem? (i := 14) rfl))) (mvT hZ (hw _ (List.mem_of_getElem? (i := 15) rfl))) (mvT hZ (hw _ (List.mem_of_getElem? (i := 16) rfl))) (by decide) (backOf (W := 1) (rm2 l Z a0 hw [] ((p1 &&& (255 : Int32)) - (128 : Int32)) aA cl w (.ref ww) h20 n0 (Nat.le_trans (Nat.le_trans (Nat.le_trans (Nat.le_trans (Nat.le_trans (Nat.le_trans (Nat.le_trans (Nat.le_trans (Nat.le_trans (Nat.le_trans (Nat.le_trans (Nat.le_trans (Nat.le_trans (Nat.le_trans (Nat.le_trans (Nat.le_trans (Nat.le_trans (Nat.le_trans Z0 E3.1) (Keep.of_wr W4).1) (Keep.of_wr W5).1) (Keep.of_wr W6).1) (Keep.of_wr W7).1) (Keep.of_wr W8).1) (Keep.of_wr W9).1) (Keep.of_wr W10).1) (Keep.of_wr W11).1) (Keep.of_wr W12).1) (Keep.of_wr W13).1) (Keep.of_wr W14).1) (Keep.of_wr W15).1) (Keep.of_wr W16).1) (Keep.of_wr W17).1) (Keep.of_wr W18).1) (Keep.of_wr W19).1) (Keep.of_wr W20).1) (OF.ext EK) HS) hZ (hw _ (List.mem_of_getElem? (i := 16) rfl)) (hw _ (List.mem_of_getElem? (i := 15) rfl)) (by decide) (by decide)) (g := (mkF m 145 #[.val (.int p1), .val (.int p2), .val (.ref b3), .val (.int (p2 &&& (31 : Int32))), .val (.int ((p1 &&& (255 : Int32)) - (128 : Int32)))] [(.int ((p1 &&& (255 : Int32)) - (128 : Int32))), (.ref ww)])) rfl (by rw [hml]; rfl) (argsL := [(.int ((p1 &&& (255 : Int32)) - (128 : Int32)))]) (rest := [(.ref ww)]) (lenOf pd_0_0 rfl) rfl (by show 2 * 0 + _ ≤ _; exact Nat.le_of_eq rfl) (hb hby at_145) (fun _ _ => ⟨rfl, eq21, (by decide : 1 + 0 ≤ _), (by decide : 17 + 0 ≤ _)⟩)
  dsimp only [Pt.U, Pt.locs, Pt.cells, Pt.slots] at X22 l22 y22 z22 st22 hQ22
  subst l22 y22 z22
  obtain ⟨rfl, N22q, eq22⟩ := hQ22
  have N22 := Fr.app N21 N22q
  obtain ⟨fs, hr, hrun, hended, hW, hsame⟩ := X22.leave (v := some (.int (1 : Int32))) (fun h => by rw [Bd.returns] at h; cases h)
  refine ⟨_, _, pre0 _ ?_, hrun, hended, _, _, rfl, ?_, ⟨_, rfl⟩, hW, hsame.mono (by decide) (by decide)⟩
  · show Steps p.tables e below (s₁.setTop (mkF m 0 #[.val (.int p1), .val (.int p2), .unset, .unset, .unset] [])) _
    refine XS.bipush X0.here hx rfl (hb hby at_0) ?_
    show Steps p.tables e below (s₁.setTop (mkF m 2 #[.val (.int p1), .val (.int p2), .unset, .unset, .unset] [(.int (17 : Int32))])) _
    refine st3 _ ?_
    show Steps p.tables e below (T3.setTop (mkF m 4 #[.val (.int p1), .val (.int p2), .unset, .unset, .unset] [(.ref b3)])) _
    refine XS.dup X3.here hx rfl (hb hby at_4) rfl rfl ?_
    show Steps p.tables e below (T3.setTop (mkF m 5 #[.val (.int p1), .val (.int p2), .unset, .unset, .unset] [(.ref b3), (.ref b3)])) _
    refine XS.iconst X3.here hx rfl (hb hby at_5) ?_
    show Steps p.tables e below (T3.setTop (mkF m 6 #[.val (.int p1), .val (.int p2), .unset, .unset, .unset] [(.int (0 : Int32)), (.ref b3), (.ref b3)])) _
    refine XS.iconst X3.here hx rfl (hb hby at_6) ?_
    show Steps p.tables e below (T3.setTop (mkF m 7 #[.val (.int p1), .val (.int p2), .unset, .unset, .unset] [(.int (1 : Int32)), (.int (0 : Int32)), (.ref b3), (.ref b3)])) _
    refine st4 _ ?_
    show Steps p.tables e below (T4.setTop (mkF m 8 #[.val (.int p1), .val (.int p2), .unset, .unset, .unset] [(.ref b3)])) _
    refine XS.dup X4.here hx rfl (hb hby at_8) rfl rfl ?_
    show Steps p.tables e below (T4.setTop (mkF m 9 #[.val (.int p1), .val (.int p2), .unset, .unset, .unset] [(.ref b3), (.ref b3)])) _
    refine XS.iconst X4.here hx rfl (hb hby at_9) ?_
    show Steps p.tables e below (T4.setTop (mkF m 10 #[.val (.int p1), .val (.int p2), .unset, .unset, .unset] [(.int (1 : Int32)), (.ref b3), (.ref b3)])) _
    refine XS.iconst X4.here hx rfl (hb hby at_10) ?_
    show Steps p.tables e below (T4.setTop (mkF m 11 #[.val (.int p1), .val (.int p2), .unset, .unset, .unset] [(.int (2 : Int32)), (.int (1 : Int32)), (.ref b3), (.ref b3)])) _
    refine st5 _ ?_
    show Steps p.tables e below (T5.setTop (mkF m 12 #[.val (.int p1), .val (.int p2), .unset, .unset, .unset] [(.ref b3)])) _
    refine XS.dup X5.here hx rfl (hb hby at_12) rfl rfl ?_
    show Steps p.tables e below (T5.setTop (mkF m 13 #[.val (.int p1), .val (.int p2), .unset, .unset, .unset] [(.ref b3), (.ref b3)])) _
    refine XS.iconst X5.here hx rfl (hb hby at_13) ?_
    show Steps p.tables e below (T5.setTop (mkF m 14 #[.val (.int p1), .val (.int p2), .unset, .unset, .unset] [(.int (2 : Int32)), (.ref b3), (.ref b3)])) _
    refine XS.iconst X5.here hx rfl (hb hby at_14) ?_
    show Steps p.tables e below (T5.setTop (mkF m 15 #[.val (.int p1), .val (.int p2), .unset, .unset, .unset] [(.int (3 : Int32)), (.int (2 : Int32)), (.ref b3), (.ref b3)])) _
    refine st6 _ ?_
    show Steps p.tables e below (T6.setTop (mkF m 16 #[.val (.int p1), .val (.int p2), .unset, .unset, .unset] [(.ref b3)])) _
    refine XS.dup X6.here hx rfl (hb hby at_16) rfl rfl ?_
    show Steps p.tables e below (T6.setTop (mkF m 17 #[.val (.int p1), .val (.int p2), .unset, .unset, .unset] [(.ref b3), (.ref b3)])) _
    refine XS.iconst X6.here hx rfl (hb hby at_17) ?_
    show Steps p.tables e below (T6.setTop (mkF m 18 #[.val (.int p1), .val (.int p2), .unset, .unset, .unset] [(.int (3 : Int32)), (.ref b3), (.ref b3)])) _
    refine XS.iconst X6.here hx rfl (hb hby at_18) ?_
    show Steps p.tables e below (T6.setTop (mkF m 19 #[.val (.int p1), .val (.int p2), .unset, .unset, .unset] [(.int (4 : Int32)), (.int (3 : Int32)), (.ref b3), (.ref b3)])) _
    refine st7 _ ?_
    show Steps p.tables e below (T7.setTop (mkF m 20 #[.val (.int p1), .val (.int p2), .unset, .unset, .unset] [(.ref b3)])) _
    refine XS.dup X7.here hx rfl (hb hby at_20) rfl rfl ?_
    show Steps p.tables e below (T7.setTop (mkF m 21 #[.val (.int p1), .val (.int p2), .unset, .unset, .unset] [(.ref b3), (.ref b3)])) _
    refine XS.iconst X7.here hx rfl (hb hby at_21) ?_
    show Steps p.tables e below (T7.setTop (mkF m 22 #[.val (.int p1), .val (.int p2), .unset, .unset, .unset] [(.int (4 : Int32)), (.ref b3), (.ref b3)])) _
    refine XS.iconst X7.here hx rfl (hb hby at_22) ?_
    show Steps p.tables e below (T7.setTop (mkF m 23 #[.val (.int p1), .val (.int p2), .unset, .unset, .unset] [(.int (5 : Int32)), (.int (4 : Int32)), (.ref b3), (.ref b3)])) _
    refine st8 _ ?_
    show Steps p.tables e below (T8.setTop (mkF m 24 #[.val (.int p1), .val (.int p2), .unset, .unset, .unset] [(.ref b3)])) _
    refine XS.dup X8.here hx rfl (hb hby at_24) rfl rfl ?_
    show Steps p.tables e below (T8.setTop (mkF m 25 #[.val (.int p1), .val (.int p2), .unset, .unset, .unset] [(.ref b3), (.ref b3)])) _
    refine XS.iconst X8.here hx rfl (hb hby at_25) ?_
    show Steps p.tables e below (T8.setTop (mkF m 26 #[.val (.int p1), .val (.int p2), .unset, .unset, .unset] [(.int (5 : Int32)), (.ref b3), (.ref b3)])) _
    refine XS.bipush X8.here hx rfl (hb hby at_26) ?_
    show Steps p.tables e below (T8.setTop (mkF m 28 #[.val (.int p1), .val (.int p2), .unset, .unset, .unset] [(.int (6 : Int32)), (.int (5 : Int32)), (.ref b3), (.ref b3)])) _
    refine st9 _ ?_
    show Steps p.tables e below (T9.setTop (mkF m 29 #[.val (.int p1), .val (.int p2), .unset, .unset, .unset] [(.ref b3)])) _
    refine XS.dup X9.here hx rfl (hb hby at_29) rfl rfl ?_
    show Steps p.tables e below (T9.setTop (mkF m 30 #[.val (.int p1), .val (.int p2), .unset, .unset, .unset] [(.ref b3), (.ref b3)])) _
    refine XS.bipush X9.here hx rfl (hb hby at_30) ?_
    show Steps p.tables e below (T9.setTop (mkF m 32 #[.val (.int p1), .val (.int p2), .unset, .unset, .unset] [(.int (6 : Int32)), (.ref b3), (.ref b3)])) _
    refine XS.bipush X9.here hx rfl (hb hby at_32) ?_
    show Steps p.tables e below (T9.setTop (mkF m 34 #[.val (.int p1), .val (.int p2), .unset, .unset, .unset] [(.int (7 : Int32)), (.int (6 : Int32)), (.ref b3), (.ref b3)])) _
    refine st10 _ ?_
    show Steps p.tables e below (T10.setTop (mkF m 35 #[.val (.int p1), .val (.int p2), .unset, .unset, .unset] [(.ref b3)])) _
    refine XS.dup X10.here hx rfl (hb hby at_35) rfl rfl ?_
    show Steps p.tables e below (T10.setTop (mkF m 36 #[.val (.int p1), .val (.int p2), .unset, .unset, .unset] [(.ref b3), (.ref b3)])) _
    refine XS.bipush X10.here hx rfl (hb hby at_36) ?_
    show Steps p.tables e below (T10.setTop (mkF m 38 #[.val (.int p1), .val (.int p2), .unset, .unset, .unset] [(.int (7 : Int32)), (.ref b3), (.ref b3)])) _
    refine XS.bipush X10.here hx rfl (hb hby at_38) ?_
    show Steps p.tables e below (T10.setTop (mkF m 40 #[.val (.int p1), .val (.int p2), .unset, .unset, .unset] [(.int (8 : Int32)), (.int (7 : Int32)), (.ref b3), (.ref b3)])) _
    refine st11 _ ?_
    show Steps p.tables e below (T11.setTop (mkF m 41 #[.val (.int p1), .val (.int p2), .unset, .unset, .unset] [(.ref b3)])) _
    refine XS.dup X11.here hx rfl (hb hby at_41) rfl rfl ?_
    show Steps p.tables e below (T11.setTop (mkF m 42 #[.val (.int p1), .val (.int p2), .unset, .unset, .unset] [(.ref b3), (.ref b3)])) _
    refine XS.bipush X11.here hx rfl (hb hby at_42) ?_
    show Steps p.tables e below (T11.setTop (mkF m 44 #[.val (.int p1), .val (.int p2), .unset, .unset, .unset] [(.int (8 : Int32)), (.ref b3), (.ref b3)])) _
    refine XS.bipush X11.here hx rfl (hb hby at_44) ?_
    show Steps p.tables e below (T11.setTop (mkF m 46 #[.val (.int p1), .val (.int p2), .unset, .unset, .unset] [(.int (9 : Int32)), (.int (8 : Int32)), (.ref b3), (.ref b3)])) _
    refine st12 _ ?_
    show Steps p.tables e below (T12.setTop (mkF m 47 #[.val (.int p1), .val (.int p2), .unset, .unset, .unset] [(.ref b3)])) _
    refine XS.dup X12.here hx rfl (hb hby at_47) rfl rfl ?_
    show Steps p.tables e below (T12.setTop (mkF m 48 #[.val (.int p1), .val (.int p2), .unset, .unset, .unset] [(.ref b3), (.ref b3)])) _
    refine XS.bipush X12.here hx rfl (hb hby at_48) ?_
    show Steps p.tables e below (T12.setTop (mkF m 50 #[.val (.int p1), .val (.int p2), .unset, .unset, .unset] [(.int (9 : Int32)), (.ref b3), (.ref b3)])) _
    refine XS.bipush X12.here hx rfl (hb hby at_50) ?_
    show Steps p.tables e below (T12.setTop (mkF m 52 #[.val (.int p1), .val (.int p2), .unset, .unset, .unset] [(.int (11 : Int32)), (.int (9 : Int32)), (.ref b3), (.ref b3)])) _
    refine st13 _ ?_
    show Steps p.tables e below (T13.setTop (mkF m 53 #[.val (.int p1), .val (.int p2), .unset, .unset, .unset] [(.ref b3)])) _
    refine XS.dup X13.here hx rfl (hb hby at_53) rfl rfl ?_
    show Steps p.tables e below (T13.setTop (mkF m 54 #[.val (.int p1), .val (.int p2), .unset, .unset, .unset] [(.ref b3), (.ref b3)])) _
    refine XS.bipush X13.here hx rfl (hb hby at_54) ?_
    show Steps p.tables e below (T13.setTop (mkF m 56 #[.val (.int p1), .val (.int p2), .unset, .unset, .unset] [(.int (10 : Int32)), (.ref b3), (.ref b3)])) _
    refine XS.bipush X13.here hx rfl (hb hby at_56) ?_
    show Steps p.tables e below (T13.setTop (mkF m 58 #[.val (.int p1), .val (.int p2), .unset, .unset, .unset] [(.int (12 : Int32)), (.int (10 : Int32)), (.ref b3), (.ref b3)])) _
    refine st14 _ ?_
    show Steps p.tables e below (T14.setTop (mkF m 59 #[.val (.int p1), .val (.int p2), .unset, .unset, .unset] [(.ref b3)])) _
    refine XS.dup X14.here hx rfl (hb hby at_59) rfl rfl ?_
    show Steps p.tables e below (T14.setTop (mkF m 60 #[.val (.int p1), .val (.int p2), .unset, .unset, .unset] [(.ref b3), (.ref b3)])) _
    refine XS.bipush X14.here hx rfl (hb hby at_60) ?_
    show Steps p.tables e below (T14.setTop (mkF m 62 #[.val (.int p1), .val (.int p2), .unset, .unset, .unset] [(.int (11 : Int32)), (.ref b3), (.ref b3)])) _
    refine XS.bipush X14.here hx rfl (hb hby at_62) ?_
    show Steps p.tables e below (T14.setTop (mkF m 64 #[.val (.int p1), .val (.int p2), .unset, .unset, .unset] [(.int (13 : Int32)), (.int (11 : Int32)), (.ref b3), (.ref b3)])) _
    refine st15 _ ?_
    show Steps p.tables e below (T15.setTop (mkF m 65 #[.val (.int p1), .val (.int p2), .unset, .unset, .unset] [(.ref b3)])) _
    refine XS.dup X15.here hx rfl (hb hby at_65) rfl rfl ?_
    show Steps p.tables e below (T15.setTop (mkF m 66 #[.val (.int p1), .val (.int p2), .unset, .unset, .unset] [(.ref b3), (.ref b3)])) _
    refine XS.bipush X15.here hx rfl (hb hby at_66) ?_
    show Steps p.tables e below (T15.setTop (mkF m 68 #[.val (.int p1), .val (.int p2), .unset, .unset, .unset] [(.int (12 : Int32)), (.ref b3), (.ref b3)])) _
    refine XS.bipush X15.here hx rfl (hb hby at_68) ?_
    show Steps p.tables e below (T15.setTop (mkF m 70 #[.val (.int p1), .val (.int p2), .unset, .unset, .unset] [(.int (14 : Int32)), (.int (12 : Int32)), (.ref b3), (.ref b3)])) _
    refine st16 _ ?_
    show Steps p.tables e below (T16.setTop (mkF m 71 #[.val (.int p1), .val (.int p2), .unset, .unset, .unset] [(.ref b3)])) _
    refine XS.dup X16.here hx rfl (hb hby at_71) rfl rfl ?_
    show Steps p.tables e below (T16.setTop (mkF m 72 #[.val (.int p1), .val (.int p2), .unset, .unset, .unset] [(.ref b3), (.ref b3)])) _
    refine XS.bipush X16.here hx rfl (hb hby at_72) ?_
    show Steps p.tables e below (T16.setTop (mkF m 74 #[.val (.int p1), .val (.int p2), .unset, .unset, .unset] [(.int (13 : Int32)), (.ref b3), (.ref b3)])) _
    refine XS.bipush X16.here hx rfl (hb hby at_74) ?_
    show Steps p.tables e below (T16.setTop (mkF m 76 #[.val (.int p1), .val (.int p2), .unset, .unset, .unset] [(.int (15 : Int32)), (.int (13 : Int32)), (.ref b3), (.ref b3)])) _
    refine st17 _ ?_
    show Steps p.tables e below (T17.setTop (mkF m 77 #[.val (.int p1), .val (.int p2), .unset, .unset, .unset] [(.ref b3)])) _
    refine XS.dup X17.here hx rfl (hb hby at_77) rfl rfl ?_
    show Steps p.tables e below (T17.setTop (mkF m 78 #[.val (.int p1), .val (.int p2), .unset, .unset, .unset] [(.ref b3), (.ref b3)])) _
    refine XS.bipush X17.here hx rfl (hb hby at_78) ?_
    show Steps p.tables e below (T17.setTop (mkF m 80 #[.val (.int p1), .val (.int p2), .unset, .unset, .unset] [(.int (14 : Int32)), (.ref b3), (.ref b3)])) _
    refine XS.bipush X17.here hx rfl (hb hby at_80) ?_
    show Steps p.tables e below (T17.setTop (mkF m 82 #[.val (.int p1), .val (.int p2), .unset, .unset, .unset] [(.int (100 : Int32)), (.int (14 : Int32)), (.ref b3), (.ref b3)])) _
    refine st18 _ ?_
    show Steps p.tables e below (T18.setTop (mkF m 83 #[.val (.int p1), .val (.int p2), .unset, .unset, .unset] [(.ref b3)])) _
    refine XS.dup X18.here hx rfl (hb hby at_83) rfl rfl ?_
    show Steps p.tables e below (T18.setTop (mkF m 84 #[.val (.int p1), .val (.int p2), .unset, .unset, .unset] [(.ref b3), (.ref b3)])) _
    refine XS.bipush X18.here hx rfl (hb hby at_84) ?_
    show Steps p.tables e below (T18.setTop (mkF m 86 #[.val (.int p1), .val (.int p2), .unset, .unset, .unset] [(.int (15 : Int32)), (.ref b3), (.ref b3)])) _
    refine XS.bipush X18.here hx rfl (hb hby at_86) ?_
    show Steps p.tables e below (T18.setTop (mkF m 88 #[.val (.int p1), .val (.int p2), .unset, .unset, .unset] [(.int (101 : Int32)), (.int (15 : Int32)), (.ref b3), (.ref b3)])) _
    refine st19 _ ?_
    show Steps p.tables e below (T19.setTop (mkF m 89 #[.val (.int p1), .val (.int p2), .unset, .unset, .unset] [(.ref b3)])) _
    refine XS.dup X19.here hx rfl (hb hby at_89) rfl rfl ?_
    show Steps p.tables e below (T19.setTop (mkF m 90 #[.val (.int p1), .val (.int p2), .unset, .unset, .unset] [(.ref b3), (.ref b3)])) _
    refine XS.bipush X19.here hx rfl (hb hby at_90) ?_
    show Steps p.tables e below (T19.setTop (mkF m 92 #[.val (.int p1), .val (.int p2), .unset, .unset, .unset] [(.int (16 : Int32)), (.ref b3), (.ref b3)])) _
    refine XS.bipush X19.here hx rfl (hb hby at_92) ?_
    show Steps p.tables e below (T19.setTop (mkF m 94 #[.val (.int p1), .val (.int p2), .unset, .unset, .unset] [(.int (-11 : Int32)), (.int (16 : Int32)), (.ref b3), (.ref b3)])) _
    refine st20 _ ?_
    show Steps p.tables e below (T20.setTop (mkF m 95 #[.val (.int p1), .val (.int p2), .unset, .unset, .unset] [(.ref b3)])) _
    refine XS.astoreN X20.here hx rfl (hb hby at_95) rfl rfl (l' := #[.val (.int p1), .val (.int p2), .val (.ref b3), .unset, .unset]) rfl ?_
    show Steps p.tables e below (T20.setTop (mkF m 96 #[.val (.int p1), .val (.int p2), .val (.ref b3), .unset, .unset] [])) _
    refine XS.iloadN X20.here hx rfl (hb hby at_96) rfl ?_
    show Steps p.tables e below (T20.setTop (mkF m 97 #[.val (.int p1), .val (.int p2), .val (.ref b3), .unset, .unset] [(.int p2)])) _
    refine XS.bipush X20.here hx rfl (hb hby at_97) ?_
    show Steps p.tables e below (T20.setTop (mkF m 99 #[.val (.int p1), .val (.int p2), .val (.ref b3), .unset, .unset] [(.int (31 : Int32)), (.int p2)])) _
    refine XS.iand X20.here hx rfl (hb hby at_99) rfl ?_
    show Steps p.tables e below (T20.setTop (mkF m 100 #[.val (.int p1), .val (.int p2), .val (.ref b3), .unset, .unset] [(.int (p2 &&& (31 : Int32)))])) _
    refine XS.istoreN X20.here hx rfl (hb hby at_100) rfl (l' := #[.val (.int p1), .val (.int p2), .val (.ref b3), .val (.int (p2 &&& (31 : Int32))), .unset]) rfl ?_
    show Steps p.tables e below (T20.setTop (mkF m 101 #[.val (.int p1), .val (.int p2), .val (.ref b3), .val (.int (p2 &&& (31 : Int32))), .unset] [])) _
    refine XS.iloadN X20.here hx rfl (hb hby at_101) rfl ?_
    show Steps p.tables e below (T20.setTop (mkF m 102 #[.val (.int p1), .val (.int p2), .val (.ref b3), .val (.int (p2 &&& (31 : Int32))), .unset] [(.int (p2 &&& (31 : Int32)))])) _
    refine XS.bipush X20.here hx rfl (hb hby at_102) ?_
    show Steps p.tables e below (T20.setTop (mkF m 104 #[.val (.int p1), .val (.int p2), .val (.ref b3), .val (.int (p2 &&& (31 : Int32))), .unset] [(.int (17 : Int32)), (.int (p2 &&& (31 : Int32)))])) _
    refine XS.icmpYes X20.here hx rfl (pc0 := 104) (pc' := 115) rfl (hb hby at_104) rfl (flt hc104).2.1 (by decide) (by decide) ?_
    show Steps p.tables e below (T20.setTop (mkF m 115 #[.val (.int p1), .val (.int p2), .val (.ref b3), .val (.int (p2 &&& (31 : Int32))), .unset] [])) _
    refine XS.iloadN X20.here hx rfl (hb hby at_115) rfl ?_
    show Steps p.tables e below (T20.setTop (mkF m 116 #[.val (.int p1), .val (.int p2), .val (.ref b3), .val (.int (p2 &&& (31 : Int32))), .unset] [(.int (p2 &&& (31 : Int32)))])) _
    refine XS.bipush X20.here hx rfl (hb hby at_116) ?_
    show Steps p.tables e below (T20.setTop (mkF m 118 #[.val (.int p1), .val (.int p2), .val (.ref b3), .val (.int (p2 &&& (31 : Int32))), .unset] [(.int (24 : Int32)), (.int (p2 &&& (31 : Int32)))])) _
    refine XS.icmpNo X20.here hx rfl (hb hby at_118) rfl (tlt hc118).2.1 ?_
    show Steps p.tables e below (T20.setTop (mkF m 121 #[.val (.int p1), .val (.int p2), .val (.ref b3), .val (.int (p2 &&& (31 : Int32))), .unset] [])) _
    refine XS.iloadN X20.here hx rfl (hb hby at_121) rfl ?_
    show Steps p.tables e below (T20.setTop (mkF m 122 #[.val (.int p1), .val (.int p2), .val (.ref b3), .val (.int (p2 &&& (31 : Int32))), .unset] [(.int p1)])) _
    refine XS.sipush X20.here hx rfl (hb hby at_122) ?_
    show Steps p.tables e below (T20.setTop (mkF m 125 #[.val (.int p1), .val (.int p2), .val (.ref b3), .val (.int (p2 &&& (31 : Int32))), .unset] [(.int (255 : Int32)), (.int p1)])) _
    refine XS.iand X20.here hx rfl (hb hby at_125) rfl ?_
    show Steps p.tables e below (T20.setTop (mkF m 126 #[.val (.int p1), .val (.int p2), .val (.ref b3), .val (.int (p2 &&& (31 : Int32))), .unset] [(.int (p1 &&& (255 : Int32)))])) _
    refine XS.sipush X20.here hx rfl (hb hby at_126) ?_
    show Steps p.tables e below (T20.setTop (mkF m 129 #[.val (.int p1), .val (.int p2), .val (.ref b3), .val (.int (p2 &&& (31 : Int32))), .unset] [(.int (128 : Int32)), (.int (p1 &&& (255 : Int32)))])) _
    refine XS.isub X20.here hx rfl (hb hby at_129) rfl ?_
    show Steps p.tables e below (T20.setTop (mkF m 130 #[.val (.int p1), .val (.int p2), .val (.ref b3), .val (.int (p2 &&& (31 : Int32))), .unset] [(.int ((p1 &&& (255 : Int32)) - (128 : Int32)))])) _
    refine XS.istore X20.here hx rfl (hb hby at_130) rfl (l' := #[.val (.int p1), .val (.int p2), .val (.ref b3), .val (.int (p2 &&& (31 : Int32))), .val (.int ((p1 &&& (255 : Int32)) - (128 : Int32)))]) rfl ?_
    show Steps p.tables e below (T20.setTop (mkF m 132 #[.val (.int p1), .val (.int p2), .val (.ref b3), .val (.int (p2 &&& (31 : Int32))), .val (.int ((p1 &&& (255 : Int32)) - (128 : Int32)))] [])) _
    refine XS.goto X20.here hx rfl (pc0 := 132) (pc' := 138) rfl (hb hby at_132) (by decide) (by decide) ?_
    show Steps p.tables e below (T20.setTop (mkF m 138 #[.val (.int p1), .val (.int p2), .val (.ref b3), .val (.int (p2 &&& (31 : Int32))), .val (.int ((p1 &&& (255 : Int32)) - (128 : Int32)))] [])) _
    refine XS.iload X20.here hx rfl (hb hby at_138) rfl ?_
    show Steps p.tables e below (T20.setTop (mkF m 140 #[.val (.int p1), .val (.int p2), .val (.ref b3), .val (.int (p2 &&& (31 : Int32))), .val (.int ((p1 &&& (255 : Int32)) - (128 : Int32)))] [(.int ((p1 &&& (255 : Int32)) - (128 : Int32)))])) _
    refine st21 _ ?_
    show Steps p.tables e below (T21.setTop (mkF m 143 #[.val (.int p1), .val (.int p2), .val (.ref b3), .val (.int (p2 &&& (31 : Int32))), .val (.int ((p1 &&& (255 : Int32)) - (128 : Int32)))] [(.ref ww)])) _
    refine XS.iload X21.here hx rfl (hb hby at_143) rfl ?_
    show Steps p.tables e below (T21.setTop (mkF m 145 #[.val (.int p1), .val (.int p2), .val (.ref b3), .val (.int (p2 &&& (31 : Int32))), .val (.int ((p1 &&& (255 : Int32)) - (128 : Int32)))] [(.int ((p1 &&& (255 : Int32)) - (128 : Int32))), (.ref ww)])) _
    refine st22 _ ?_
    show Steps p.tables e below (T22.setTop (mkF m 148 #[.val (.int p1), .val (.int p2), .val (.ref b3), .val (.int (p2 &&& (31 : Int32))), .val (.int ((p1 &&& (255 : Int32)) - (128 : Int32)))] [(.ref ww), (.ref ww)])) _
    refine Jvm.RoadKit.acmp (g := (mkF m 148 #[.val (.int p1), .val (.int p2), .val (.ref b3), .val (.int (p2 &&& (31 : Int32))), .val (.int ((p1 &&& (255 : Int32)) - (128 : Int32)))] [(.ref ww), (.ref ww)])) X22 hx rfl rfl rfl (pc0 := 148) (pc' := 151) (same := true) rfl (hb hby at_148) rfl (decide_eq_true rfl) (by decide) (by decide) ?_
    show Steps p.tables e below (T22.setTop (mkF m 151 #[.val (.int p1), .val (.int p2), .val (.ref b3), .val (.int (p2 &&& (31 : Int32))), .val (.int ((p1 &&& (255 : Int32)) - (128 : Int32)))] [])) _
    refine XS.iconst X22.here hx rfl (hb hby at_151) ?_
    show Steps p.tables e below (T22.setTop (mkF m 152 #[.val (.int p1), .val (.int p2), .val (.ref b3), .val (.int (p2 &&& (31 : Int32))), .val (.int ((p1 &&& (255 : Int32)) - (128 : Int32)))] [(.int (1 : Int32))])) _
    refine XS.goto X22.here hx rfl (pc0 := 152) (pc' := 156) rfl (hb hby at_152) (by decide) (by decide) ?_
    show Steps p.tables e below (T22.setTop (mkF m 156 #[.val (.int p1), .val (.int p2), .val (.ref b3), .val (.int (p2 &&& (31 : Int32))), .val (.int ((p1 &&& (255 : Int32)) - (128 : Int32)))] [(.int (1 : Int32))])) _
    exact retN X22 hx (t := .boolean) Bd.returns (by simp) (hb hby at_156) hr
  · show Q0 n0 _ T22.heap _
    rw [eq22]
    exact ⟨rfl, N22⟩

set_option maxRecDepth 65536 in
set_option maxHeartbeats 40000000 in
theorem rm0_11 (l : Launch) (Z : State) (a0 : Array Value) (hw : ∀ d ∈ tables_1, d.before a0 Z = true) (ws : List Jvm.Cond) (p1 : Int32) (p2 : Int32) (aA : Addr) (cl : Cell) (w : Nat → Addr) (h0 : Heap) (n0 : Nat) (Z0 : n0 ≤ h0.size) (OF : OpF Z h0 aA cl w) (HS : Spc w ((p1 &&& (255 : Int32)) - (128 : Int32)) .null) (hc104 : ¬ ((p2 &&& (31 : Int32)) < (17 : Int32))) (hc118 : (p2 &&& (31 : Int32)) < (24 : Int32)) :
    MetFree l x (head1 (Jvm.Cond.code x code maxLocals ret :: ws) room_1) (fun a U => a = #[(.int p1), (.int p2)] ∧ Z.Warmed39 U.vm ∧ U.heap = h0) (fun _ _ _ _ _ => True) (fun _ U o U' => ∃ v L, o = .returned v ∧ Q0 n0 v U'.heap L ∧ FrameEnd U o U' L room_1.cells room_1.slots) := by
  refine MetFree.of_bodySF (plainFor_of_name pn_0) hisR ?_
  intro p e s m args below meth c s₁ Bd hml0 hP hK
  obtain ⟨rfl, hZ, hh⟩ := hP
  have hx := Bd.exec
  have hby := Bd.bytes
  have hml : c.maxLocals = 5 := hml0
  have hown : s.vm.findClass "com/example/ulmus/ulmus/core/wire/OpCodeOfPinLaw" = some m.cls := findClass_of_methodNamed Bd.named
  have hnm := (name_of_methodNamed Bd.named Bd.method).1
  have X0 : Stand p l e room_1 s m #[(.int p1), (.int p2)] below meth c s₁ [] 0 0 := Stand.of_body Bd
  have e0 : s₁.heap = h0 := by rw [← hh, Bd.state]; rfl
  have N0 := Fr.nil n0
  have pre0 : ∀ t, Steps p.tables e below (s₁.setTop (mkF m 0 #[.val (.int p1), .val (.int p2), .unset, .unset, .unset] [])) t → Steps p.tables e below (s₁.setTop (entryFrame m #[(.int p1), (.int p2)] maxLocals)) t := fun t k => castTop (ef_0 m p1 p2) k
  obtain ⟨T3, h3, k3, X3, e3, E3, A3, st3⟩ := newP X0 hx hZ (hw _ (List.mem_of_getElem? (i := 0) rfl)) e0 (g := (mkF m 2 #[.val (.int p1), .val (.int p2), .unset, .unset, .unset] [(.int (17 : Int32))])) rfl (hb hby at_2) rfl (by decide) (cap := 17) (by decide) (by decide) (by decide) (by decide)
  obtain ⟨b3, g3⟩ : ∃ z, z = h0.size := ⟨_, rfl⟩      -- the fresh array's address
  rw [← g3] at A3 st3
  have V_b3 : Arv Z h3 b3 k3 .int (17 : Int32) [(.int (0 : Int32)), (.int (0 : Int32)), (.int (0 : Int32)), (.int (0 : Int32)), (.int (0 : Int32)), (.int (0 : Int32)), (.int (0 : Int32)), (.int (0 : Int32)), (.int (0 : Int32)), (.int (0 : Int32)), (.int (0 : Int32)), (.int (0 : Int32)), (.int (0 : Int32)), (.int (0 : Int32)), (.int (0 : Int32)), (.int (0 : Int32)), (.int (0 : Int32))] (.int (0 : Int32)) := (Arv.new A3 (by decide)).pad (pad_rep [] (.int (0 : Int32)) 17)
  have g_b3 : n0 ≤ b3 := Nat.le_trans Z0 (Nat.le_of_eq g3.symm)
  have sz_b3 : h0.size ≤ b3 := (Nat.le_trans (Keep.refl h0 []).1 (Nat.le_of_eq g3.symm))
  have K3 : Keep h0 h3 [] := (Keep.refl h0 []).ext E3
  obtain ⟨cl_b3_7, Ar_b3, q_b3, S_b3, N_b3, H_b3, G_b3⟩ := V_b3      -- open the array's fact as it stands now (its cell, kind, length, elements)
  have hin7 : ¬ ((0 : Int32) < 0 ∨ cl_b3_7.slots.size ≤ ((0 : Int32)).toNatClampNeg) := inb_of S_b3 ⟨by decide, by decide⟩
  obtain ⟨T4, h4, X4, e4, W4, st4⟩ := stI X3 hx hZ e3 Ar_b3 (j := (0 : Int32)) hin7 (g := (mkF m 7 #[.val (.int p1), .val (.int p2), .unset, .unset, .unset] [(.int (1 : Int32)), (.int (0 : Int32)), (.ref b3), (.ref b3)])) rfl rfl (hb hby at_7)
  have V_b3_4 := Arv.set Ar_b3 q_b3 S_b3 N_b3 H_b3 G_b3 rfl W4 0 rfl (Nat.le_of_ble_eq_true rfl)      -- the array as it stands now (the place must lie among its first values: Arv.pad with pad_rep lengthens them)
  have K4 : Keep h0 h4 [] := K3.wr W4 (Or.inr sz_b3)
  have N4 := Fr.snoc X4 N0 g_b3
  obtain ⟨cl_b3_11, Ar_b3, q_b3, S_b3, N_b3, H_b3, G_b3⟩ := V_b3_4      -- open the array's fact as it stands now (its cell, kind, length, elements)
  have hin11 : ¬ ((1 : Int32) < 0 ∨ cl_b3_11.slots.size ≤ ((1 : Int32)).toNatClampNeg) := inb_of S_b3 ⟨by decide, by decide⟩
  obtain ⟨T5, h5, X5, e5, W5, st5⟩ := stI X4 hx hZ e4 Ar_b3 (j := (1 : Int32)) hin11 (g := (mkF m 11 #[.val (.int p1), .val (.int p2), .unset, .unset, .unset] [(.int (2 : Int32)), (.int (1 : Int32)), (.ref b3), (.ref b3)])) rfl rfl (hb hby at_11)
  have V_b3_5 := Arv.set Ar_b3 q_b3 S_b3 N_b3 H_b3 G_b3 rfl W5 1 rfl (Nat.le_of_ble_eq_true rfl)      -- the array as it stands now (the place must lie among its first values: Arv.pad with pad_rep lengthens them)
  have K5 : Keep h0 h5 [] := K4.wr W5 (Or.inr sz_b3)
  have N5 := Fr.snoc X5 N4 g_b3
  obtain ⟨cl_b3_15, Ar_b3, q_b3, S_b3, N_b3, H_b3, G_b3⟩ := V_b3_5      -- open the array's fact as it stands now (its cell, kind, length, elements)
  have hin15 : ¬ ((2 : Int32) < 0 ∨ cl_b3_15.slots.size ≤ ((2 : Int32)).toNatClampNeg) := inb_of S_b3 ⟨by decide, by decide⟩
  obtain ⟨T6, h6, X6, e6, W6, st6⟩ := stI X5 hx hZ e5 Ar_b3 (j := (2 : Int32)) hin15 (g := (mkF m 15 #[.val (.int p1), .val (.int p2), .unset, .unset, .unset] [(.int (3 : Int32)), (.int (2 : Int32)), (.ref b3), (.ref b3)])) rfl rfl (hb hby at_15)
  have V_b3_6 := Arv.set Ar_b3 q_b3 S_b3 N_b3 H_b3 G_b3 rfl W6 2 rfl (Nat.le_of_ble_eq_true rfl)      -- the array as it stands now (the place must lie among its first values: Arv.pad with pad_rep lengthens them)
  have K6 : Keep h0 h6 [] := K5.wr W6 (Or.inr sz_b3)
  have N6 := Fr.snoc X6 N5 g_b3
  obtain ⟨cl_b3_19, Ar_b3, q_b3, S_b3, N_b3, H_b3, G_b3⟩ := V_b3_6      -- open the array's fact as it stands now (its cell, kind, length, elements)
  have hin19 : ¬ ((3 : Int32) < 0 ∨ cl_b3_19.slots.size ≤ ((3 : Int32)).toNatClampNeg) := inb_of S_b3 ⟨by decide, by decide⟩
  obtain ⟨T7, h7, X7, e7, W7, st7⟩ := stI X6 hx hZ e6 Ar_b3 (j := (3 : Int32)) hin19 (g := (mkF m 19 #[.val (.int p1), .val (.int p2), .unset, .unset, .unset] [(.int (4 : Int32)), (.int (3 : Int32)), (.ref b3), (.ref b3)])) rfl rfl (hb hby at_19)
  have V_b3_7 := Arv.set Ar_b3 q_b3 S_b3 N_b3 H_b3 G_b3 rfl W7 3 rfl (Nat.le_of_ble_eq_true rfl)      -- the array as it stands now (the place must lie among its first values: Arv.pad with pad_rep lengthens them)
  have K7 : Keep h0 h7 [] := K6.wr W7 (Or.inr sz_b3)
  have N7 := Fr.snoc X7 N6 g_b3
  obtain ⟨cl_b3_23, Ar_b3, q_b3, S_b3, N_b3, H_b3, G_b3⟩ := V_b3_7      -- open the array's fact as it stands now (its cell, kind, length, elements)
  have hin23 : ¬ ((4 : Int32) < 0 ∨ cl_b3_23.slots.size ≤ ((4 : Int32)).toNatClampNeg) := inb_of S_b3 ⟨by decide, by decide⟩
  obtain ⟨T8, h8, X8, e8, W8, st8⟩ := stI X7 hx hZ e7 Ar_b3 (j := (4 : Int32)) hin23 (g := (mkF m 23 #[.val (.int p1), .val (.int p2), .unset, .unset, .unset] [(.int (5 : Int32)), (.int (4 : Int32)), (.ref b3), (.ref b3)])) rfl rfl (hb hby at_23)
  have V_b3_8 := Arv.set Ar_b3 q_b3 S_b3 N_b3 H_b3 G_b3 rfl W8 4 rfl (Nat.le_of_ble_eq_true rfl)      -- the array as it stands now (the place must lie among its first values: Arv.pad with pad_rep lengthens them)
  have K8 : Keep h0 h8 [] := K7.wr W8 (Or.inr sz_b3)
  have N8 := Fr.snoc X8 N7 g_b3
  obtain ⟨cl_b3_28, Ar_b3, q_b3, S_b3, N_b3, H_b3, G_b3⟩ := V_b3_8      -- open the array's fact as it stands now (its cell, kind, length, elements)
  have hin28 : ¬ ((5 : Int32) < 0 ∨ cl_b3_28.slots.size ≤ ((5 : Int32)).toNatClampNeg) := inb_of S_b3 ⟨by decide, by decide⟩
  obtain ⟨T9, h9, X9, e9, W9, st9⟩ := stI X8 hx hZ e8 Ar_b3 (j := (5 : Int32)) hin28 (g := (mkF m 28 #[.val (.int p1), .val (.int p2), .unset, .unset, .unset] [(.int (6 : Int32)), (.int (5 : Int32)), (.ref b3), (.ref b3)])) rfl rfl (hb hby at_28)
  have V_b3_9 := Arv.set Ar_b3 q_b3 S_b3 N_b3 H_b3 G_b3 rfl W9 5 rfl (Nat.le_of_ble_eq_true rfl)      -- the array as it stands now (the place must lie among its first values: Arv.pad with pad_rep lengthens them)
  have K9 : Keep h0 h9 [] := K8.wr W9 (Or.inr sz_b3)
  have N9 := Fr.snoc X9 N8 g_b3
  obtain ⟨cl_b3_34, Ar_b3, q_b3, S_b3, N_b3, H_b3, G_b3⟩ := V_b3_9      -- open the array's fact as it stands now (its cell, kind, length, elements)
  have hin34 : ¬ ((6 : Int32) < 0 ∨ cl_b3_34.slots.size ≤ ((6 : Int32)).toNatClampNeg) := inb_of S_b3 ⟨by decide, by decide⟩
  obtain ⟨T10, h10, X10, e10, W10, st10⟩ := stI X9 hx hZ e9 Ar_b3 (j := (6 : Int32)) hin34 (g := (mkF m 34 #[.val (.int p1), .val (.int p2), .unset, .unset, .unset] [(.int (7 : Int32)), (.int (6 : Int32)), (.ref b3), (.ref b3)])) rfl rfl (hb hby at_34)
  have V_b3_10 := Arv.set Ar_b3 q_b3 S_b3 N_b3 H_b3 G_b3 rfl W10 6 rfl (Nat.le_of_ble_eq_true rfl)      -- the array as it stands now (the place must lie among its first values: Arv.pad with pad_rep lengthens them)
  have K10 : Keep h0 h10 [] := K9.wr W10 (Or.inr sz_b3)
  have N10 := Fr.snoc X10 N9 g_b3
  obtain ⟨cl_b3_40, Ar_b3, q_b3, S_b3, N_b3, H_b3, G_b3⟩ := V_b3_10      -- open the array's fact as it stands now (its cell, kind, length, elements)
  have hin40 : ¬ ((7 : Int32) < 0 ∨ cl_b3_40.slots.size ≤ ((7 : Int32)).toNatClampNeg) := inb_of S_b3 ⟨by decide, by decide⟩
  obtain ⟨T11, h11, X11, e11, W11, st11⟩ := stI X10 hx hZ e10 Ar_b3 (j := (7 : Int32)) hin40 (g := (mkF m 40 #[.val (.int p1), .val (.int p2), .unset, .unset, .unset] [(.int (8 : Int32)), (.int (7 : Int32)), (.ref b3), (.ref b3)])) rfl rfl (hb hby at_40)
  have V_b3_11 := Arv.set Ar_b3 q_b3 S_b3 N_b3 H_b3 G_b3 rfl W11 7 rfl (Nat.le_of_ble_eq_true rfl)      -- the array as it stands now (the place must lie among its first values: Arv.pad with pad_rep lengthens them)
  have K11 : Keep h0 h11 [] := K10.wr W11 (Or.inr sz_b3)
  have N11 := Fr.snoc X11 N10 g_b3
  obtain ⟨cl_b3_46, Ar_b3, q_b3, S_b3, N_b3, H_b3, G_b3⟩ := V_b3_11      -- open the array's fact as it stands now (its cell, kind, length, elements)
  have hin46 : ¬ ((8 : Int32) < 0 ∨ cl_b3_46.slots.size ≤ ((8 : Int32)).toNatClampNeg) := inb_of S_b3 ⟨by decide, by decide⟩
  obtain ⟨T12, h12, X12, e12, W12, st12⟩ := stI X11 hx hZ e11 Ar_b3 (j := (8 : Int32)) hin46 (g := (mkF m 46 #[.val (.int p1), .val (.int p2), .unset, .unset, .unset] [(.int (9 : Int32)), (.int (8 : Int32)), (.ref b3), (.ref b3)])) rfl rfl (hb hby at_46)
  have V_b3_12 := Arv.set Ar_b3 q_b3 S_b3 N_b3 H_b3 G_b3 rfl W12 8 rfl (Nat.le_of_ble_eq_true rfl)      -- the array as it stands now (the place must lie among its first values: Arv.pad with pad_rep lengthens them)
  have K12 : Keep h0 h12 [] := K11.wr W12 (Or.inr sz_b3)
  have N12 := Fr.snoc X12 N11 g_b3
  obtain ⟨cl_b3_52, Ar_b3, q_b3, S_b3, N_b3, H_b3, G_b3⟩ := V_b3_12      -- open the array's fact as it stands now (its cell, kind, length, elements)
  have hin52 : ¬ ((9 : Int32) < 0 ∨ cl_b3_52.slots.size ≤ ((9 : Int32)).toNatClampNeg) := inb_of S_b3 ⟨by decide, by decide⟩
  obtain ⟨T13, h13, X13, e13, W13, st13⟩ := stI X12 hx hZ e12 Ar_b3 (j := (9 : Int32)) hin52 (g := (mkF m 52 #[.val (.int p1), .val (.int p2), .unset, .unset, .unset] [(.int (11 : Int32)), (.int (9 : Int32)), (.ref b3), (.ref b3)])) rfl rfl (hb hby at_52)
  have V_b3_13 := Arv.set Ar_b3 q_b3 S_b3 N_b3 H_b3 G_b3 rfl W13 9 rfl (Nat.le_of_ble_eq_true rfl)      -- the array as it stands now (the place must lie among its first values: Arv.pad with pad_rep lengthens them)
  have K13 : Keep h0 h13 [] := K12.wr W13 (Or.inr sz_b3)
  have N13 := Fr.snoc X13 N12 g_b3
  obtain ⟨cl_b3_58, Ar_b3, q_b3, S_b3, N_b3, H_b3, G_b3⟩ := V_b3_13      -- open the array's fact as it stands now (its cell, kind, length, elements)
  have hin58 : ¬ ((10 : Int32) < 0 ∨ cl_b3_58.slots.size ≤ ((10 : Int32)).toNatClampNeg) := inb_of S_b3 ⟨by decide, by decide⟩
  obtain ⟨T14, h14, X14, e14, W14, st14⟩ := stI X13 hx hZ e13 Ar_b3 (j := (10 : Int32)) hin58 (g := (mkF m 58 #[.val (.int p1), .val (.int p2), .unset, .unset, .unset] [(.int (12 : Int32)), (.int (10 : Int32)), (.ref b3), (.ref b3)])) rfl rfl (hb hby at_58)
  have V_b3_14 := Arv.set Ar_b3 q_b3 S_b3 N_b3 H_b3 G_b3 rfl W14 10 rfl (Nat.le_of_ble_eq_true rfl)      -- the array as it stands now (the place must lie among its first values: Arv.pad with pad_rep lengthens them)
  have K14 : Keep h0 h14 [] := K13.wr W14 (Or.inr sz_b3)
  have N14 := Fr.snoc X14 N13 g_b3
  obtain ⟨cl_b3_64, Ar_b3, q_b3, S_b3, N_b3, H_b3, G_b3⟩ := V_b3_14      -- open the array's fact as it stands now (its cell, kind, length, elements)
  have hin64 : ¬ ((11 : Int32) < 0 ∨ cl_b3_64.slots.size ≤ ((11 : Int32)).toNatClampNeg) := inb_of S_b3 ⟨by decide, by decide⟩
  obtain ⟨T15, h15, X15, e15, W15, st15⟩ := stI X14 hx hZ e14 Ar_b3 (j := (11 : Int32)) hin64 (g := (mkF m 64 #[.val (.int p1), .val (.int p2), .unset, .unset, .unset] [(.int (13 : Int32)), (.int (11 : Int32)), (.ref b3), (.ref b3)])) rfl rfl (hb hby at_64)
  have V_b3_15 := Arv.set Ar_b3 q_b3 S_b3 N_b3 H_b3 G_b3 rfl W15 11 rfl (Nat.le_of_ble_eq_true rfl)      -- the array as it stands now (the place must lie among its first values: Arv.pad with pad_rep lengthens them)
  have K15 : Keep h0 h15 [] := K14.wr W15 (Or.inr sz_b3)
  have N15 := Fr.snoc X15 N14 g_b3
  obtain ⟨cl_b3_70, Ar_b3, q_b3, S_b3, N_b3, H_b3, G_b3⟩ := V_b3_15      -- open the array's fact as it stands now (its cell, kind, length, elements)
  have hin70 : ¬ ((12 : Int32) < 0 ∨ cl_b3_70.slots.size ≤ ((12 : Int32)).toNatClampNeg) := inb_of S_b3 ⟨by decide, by decide⟩
  obtain ⟨T16, h16, X16, e16, W16, st16⟩ := stI X15 hx hZ e15 Ar_b3 (j := (12 : Int32)) hin70 (g := (mkF m 70 #[.val (.int p1), .val (.int p2), .unset, .unset, .unset] [(.int (14 : Int32)), (.int (12 : Int32)), (.ref b3), (.ref b3)])) rfl rfl (hb hby at_70)
  have V_b3_16 := Arv.set Ar_b3 q_b3 S_b3 N_b3 H_b3 G_b3 rfl W16 12 rfl (Nat.le_of_ble_eq_true rfl)      -- the array as it stands now (the place must lie among its first values: Arv.pad with pad_rep lengthens them)
  have K16 : Keep h0 h16 [] := K15.wr W16 (Or.inr sz_b3)
  have N16 := Fr.snoc X16 N15 g_b3
  obtain ⟨cl_b3_76, Ar_b3, q_b3, S_b3, N_b3, H_b3, G_b3⟩ := V_b3_16      -- open the array's fact as it stands now (its cell, kind, length, elements)
  have hin76 : ¬ ((13 : Int32) < 0 ∨ cl_b3_76.slots.size ≤ ((13 : Int32)).toNatClampNeg) := inb_of S_b3 ⟨by decide, by decide⟩
  obtain ⟨T17, h17, X17, e17, W17, st17⟩ := stI X16 hx hZ e16 Ar_b3 (j := (13 : Int32)) hin76 (g := (mkF m 76 #[.val (.int p1), .val (.int p2), .unset, .unset, .unset] [(.int (15 : Int32)), (.int (13 : Int32)), (.ref b3), (.ref b3)])) rfl rfl (hb hby at_76)
  have V_b3_17 := Arv.set Ar_b3 q_b3 S_b3 N_b3 H_b3 G_b3 rfl W17 13 rfl (Nat.le_of_ble_eq_true rfl)      -- the array as it stands now (the place must lie among its first values: Arv.pad with pad_rep lengthens them)
  have K17 : Keep h0 h17 [] := K16.wr W17 (Or.inr sz_b3)
  have N17 := Fr.snoc X17 N16 g_b3
  obtain ⟨cl_b3_82, Ar_b3, q_b3, S_b3, N_b3, H_b3, G_b3⟩ := V_b3_17      -- open the array's fact as it stands now (its cell, kind, length, elements)
  have hin82 : ¬ ((14 : Int32) < 0 ∨ cl_b3_82.slots.size ≤ ((14 : Int32)).toNatClampNeg) := inb_of S_b3 ⟨by decide, by decide⟩
  obtain ⟨T18, h18, X18, e18, W18, st18⟩ := stI X17 hx hZ e17 Ar_b3 (j := (14 : Int32)) hin82 (g := (mkF m 82 #[.val (.int p1), .val (.int p2), .unset, .unset, .unset] [(.int (100 : Int32)), (.int (14 : Int32)), (.ref b3), (.ref b3)])) rfl rfl (hb hby at_82)
  have V_b3_18 := Arv.set Ar_b3 q_b3 S_b3 N_b3 H_b3 G_b3 rfl W18 14 rfl (Nat.le_of_ble_eq_true rfl)      -- the array as it stands now (the place must lie among its first values: Arv.pad with pad_rep lengthens them)
  have K18 : Keep h0 h18 [] := K17.wr W18 (Or.inr sz_b3)
  have N18 := Fr.snoc X18 N17 g_b3
  obtain ⟨cl_b3_88, Ar_b3, q_b3, S_b3, N_b3, H_b3, G_b3⟩ := V_b3_18      -- open the array's fact as it stands now (its cell, kind, length, elements)
  have hin88 : ¬ ((15 : Int32) < 0 ∨ cl_b3_88.slots.size ≤ ((15 : Int32)).toNatClampNeg) := inb_of S_b3 ⟨by decide, by decide⟩
  obtain ⟨T19, h19, X19, e19, W19, st19⟩ := stI X18 hx hZ e18 Ar_b3 (j := (15 : Int32)) hin88 (g := (mkF m 88 #[.val (.int p1), .val (.int p2), .unset, .unset, .unset] [(.int (101 : Int32)), (.int (15 : Int32)), (.ref b3), (.ref b3)])) rfl rfl (hb hby at_88)
  have V_b3_19 := Arv.set Ar_b3 q_b3 S_b3 N_b3 H_b3 G_b3 rfl W19 15 rfl (Nat.le_of_ble_eq_true rfl)      -- the array as it stands now (the place must lie among its first values: Arv.pad with pad_rep lengthens them)
  have K19 : Keep h0 h19 [] := K18.wr W19 (Or.inr sz_b3)
  have N19 := Fr.snoc X19 N18 g_b3
  obtain ⟨cl_b3_94, Ar_b3, q_b3, S_b3, N_b3, H_b3, G_b3⟩ := V_b3_19      -- open the array's fact as it stands now (its cell, kind, length, elements)
  have hin94 : ¬ ((16 : Int32) < 0 ∨ cl_b3_94.slots.size ≤ ((16 : Int32)).toNatClampNeg) := inb_of S_b3 ⟨by decide, by decide⟩
  obtain ⟨T20, h20, X20, e20, W20, st20⟩ := stI X19 hx hZ e19 Ar_b3 (j := (16 : Int32)) hin94 (g := (mkF m 94 #[.val (.int p1), .val (.int p2), .unset, .unset, .unset] [(.int (-11 : Int32)), (.int (16 : Int32)), (.ref b3), (.ref b3)])) rfl rfl (hb hby at_94)
  have V_b3_20 := Arv.set Ar_b3 q_b3 S_b3 N_b3 H_b3 G_b3 rfl W20 16 rfl (Nat.le_of_ble_eq_true rfl)      -- the array as it stands now (the place must lie among its first values: Arv.pad with pad_rep lengthens them)
  have K20 : Keep h0 h20 [] := K19.wr W20 (Or.inr sz_b3)
  have N20 := Fr.snoc X20 N19 g_b3
  have EK : Ext h0 h20 := ⟨K20.1, fun a c q => K20.2.1 a c q nin0⟩
  -- pc 140: com/example/ulmus/ulmus/core/wire/OpCode.of by its contract rm1
  obtain ⟨_, _, ⟨T21, L21, k21, n21⟩, -, X21, ⟨Lc21, hQ21, l21, y21, z21⟩, st21⟩ := Jvm.LawKit.callS X20 hx (y := (⟨"com/example/ulmus/ulmus/core/wire/OpCode", "of", "(I)Lcom/example/ulmus/ulmus/core/wire/OpCode;"⟩ : MethodName)) hown (mvT hZ (hw _ (List.mem_of_getElem? (i := 1) rfl))) (mvT hZ (hw _ (List.mem_of_getElem? (i := 2) rfl))) (mvT hZ (hw _ (List.mem_of_getElem? (i := 3) rfl))) (mvT hZ (hw _ (List.mem_of_getElem? (i := 4) rfl))) (by decide) (backOf (W := 0) (rm1 l Z a0 hw [] ((p1 &&& (255 : Int32)) - (128 : Int32)) aA cl w .null h20 n0 (Nat.le_trans (Nat.le_trans (Nat.le_trans (Nat.le_trans (Nat.le_trans (Nat.le_trans (Nat.le_trans (Nat.le_trans (Nat.le_trans (Nat.le_trans (Nat.le_trans (Nat.le_trans (Nat.le_trans (Nat.le_trans (Nat.le_trans (Nat.le_trans (Nat.le_trans (Nat.le_trans Z0 E3.1) (Keep.of_wr W4).1) (Keep.of_wr W5).1) (Keep.of_wr W6).1) (Keep.of_wr W7).1) (Keep.of_wr W8).1) (Keep.of_wr W9).1) (Keep.of_wr W10).1) (Keep.of_wr W11).1) (Keep.of_wr W12).1) (Keep.of_wr W13).1) (Keep.of_wr W14).1) (Keep.of_wr W15).1) (Keep.of_wr W16).1) (Keep.of_wr W17).1) (Keep.of_wr W18).1) (Keep.of_wr W19).1) (Keep.of_wr W20).1) (OF.ext EK) HS) hZ (hw _ (List.mem_of_getElem? (i := 4) rfl)) (hw _ (List.mem_of_getElem? (i := 3) rfl)) (by decide) (by decide)) (g := (mkF m 140 #[.val (.int p1), .val (.int p2), .val (.ref b3), .val (.int (p2 &&& (31 : Int32))), .val (.int ((p1 &&& (255 : Int32)) - (128 : Int32)))] [(.int ((p1 &&& (255 : Int32)) - (128 : Int32)))])) rfl (by rw [hml]; rfl) (argsL := [(.int ((p1 &&& (255 : Int32)) - (128 : Int32)))]) (rest := []) (lenOf pd_0_0 rfl) rfl (by show 2 * 0 + _ ≤ _; exact Nat.le_of_eq rfl) (hb hby at_140) (fun _ _ => ⟨rfl, e20, (by decide : 1 + 0 ≤ _), (by decide : 17 + 0 ≤ _)⟩)
  dsimp only [Pt.U, Pt.locs, Pt.cells, Pt.slots] at X21 l21 y21 z21 st21 hQ21
  subst l21 y21 z21
  obtain ⟨rfl, N21q, eq21⟩ := hQ21
  have N21 := Fr.app N20 N21q
  -- pc 145: com/example/ulmus/ulmus/core/wire/OpCodeOfPinLaw.expected by its contract rm2
  obtain ⟨_, _, ⟨T22, L22, k22, n22⟩, -, X22, ⟨Lc22, hQ22, l22, y22, z22⟩, st22⟩ := Jvm.LawKit.callS X21 hx (y := (⟨"com/example/ulmus/ulmus/core/wire/OpCodeOfPinLaw", "expected", "(I)Lcom/example/ulmus/ulmus/core/wire/OpCode;"⟩ : MethodName)) hown (mvT hZ (hw _ (List.mem_of_getElem? (i := 13) rfl))) (mvT hZ (hw _ (List.mem_of_getElem? (i := 14) rfl))) (mvT hZ (hw _ (List.mem_of_getElem? (i := 15) rfl))) (mvT hZ (hw _ (List.mem_of_getElem? (i := 16) rfl))) (by decide) (backOf (W := 1) (rm2 l Z a0 hw [] ((p1 &&& (255 : Int32)) - (128 : Int32)) aA cl w .null h20 n0 (Nat.le_trans (Nat.le_trans (Nat.le_trans (Nat.le_trans (Nat.le_trans (Nat.le_trans (Nat.le_trans (Nat.le_trans (Nat.le_trans (Nat.le_trans (Nat.le_trans (Nat.le_trans (Nat.le_trans (Nat.le_trans (Nat.le_trans (Nat.le_trans (Nat.le_trans (Nat.le_trans Z0 E3.1) (Keep.of_wr W4).1) (Keep.of_wr W5).1) (Keep.of_wr W6).1) (Keep.of_wr W7).1) (Keep.of_wr W8).1) (Keep.of_wr W9).1) (Keep.of_wr W10).1) (Keep.of_wr W11).1) (Keep.of_wr W12).1) (Keep.of_wr W13).1) (Keep.of_wr W14).1) (Keep.of_wr W15).1) (Keep.of_wr W16).1) (Keep.of_wr W17).1) (Keep.of_wr W18).1) (Keep.of_wr W19).1) (Keep.of_wr W20).1) (OF.ext EK) HS) hZ (hw _ (List.mem_of_getElem? (i := 16) rfl)) (hw _ (List.mem_of_getElem? (i := 15) rfl)) (by decide) (by decide)) (g := (mkF m 145 #[.val (.int p1), .val (.int p2), .val (.ref b3), .val (.int (p2 &&& (31 : Int32))), .val (.int ((p1 &&& (255 : Int32)) - (128 : Int32)))] [(.int ((p1 &&& (255 : Int32)) - (128 : Int32))), .null])) rfl (by rw [hml]; rfl) (argsL := [(.int ((p1 &&& (255 : Int32)) - (128 : Int32)))]) (rest := [.null]) (lenOf pd_0_0 rfl) rfl (by show 2 * 0 + _ ≤ _; exact Nat.le_of_eq rfl) (hb hby at_145) (fun _ _ => ⟨rfl, eq21, (by decide : 1 + 0 ≤ _), (by decide : 17 + 0 ≤ _)⟩)
  dsimp only [Pt.U, Pt.locs, Pt.cells, Pt.slots] at X22 l22 y22 z22 st22 hQ22
  subst l22 y22 z22
  obtain ⟨rfl, N22q, eq22⟩ := hQ22
  have N22 := Fr.app N21 N22q
  obtain ⟨fs, hr, hrun, hended, hW, hsame⟩ := X22.leave (v := some (.int (1 : Int32))) (fun h => by rw [Bd.returns] at h; cases h)
  refine ⟨_, _, pre0 _ ?_, hrun, hended, _, _, rfl, ?_, ⟨_, rfl⟩, hW, hsame.mono (by decide) (by decide)⟩
  · show Steps p.tables e below (s₁.setTop (mkF m 0 #[.val (.int p1), .val (.int p2), .unset, .unset, .unset] [])) _
    refine XS.bipush X0.here hx rfl (hb hby at_0) ?_
    show Steps p.tables e below (s₁.setTop (mkF m 2 #[.val (.int p1), .val (.int p2), .unset, .unset, .unset] [(.int (17 : Int32))])) _
    refine st3 _ ?_
    show Steps p.tables e below (T3.setTop (mkF m 4 #[.val (.int p1), .val (.int p2), .unset, .unset, .unset] [(.ref b3)])) _
    refine XS.dup X3.here hx rfl (hb hby at_4) rfl rfl ?_
    show Steps p.tables e below (T3.setTop (mkF m 5 #[.val (.int p1), .val (.int p2), .unset, .unset, .unset] [(.ref b3), (.ref b3)])) _
    refine XS.iconst X3.here hx rfl (hb hby at_5) ?_
    show Steps p.tables e below (T3.setTop (mkF m 6 #[.val (.int p1), .val (.int p2), .unset, .unset, .unset] [(.int (0 : Int32)), (.ref b3), (.ref b3)])) _
    refine XS.iconst X3.here hx rfl (hb hby at_6) ?_
    show Steps p.tables e below (T3.setTop (mkF m 7 #[.val (.int p1), .val (.int p2), .unset, .unset, .unset] [(.int (1 : Int32)), (.int (0 : Int32)), (.ref b3), (.ref b3)])) _
    refine st4 _ ?_
    show Steps p.tables e below (T4.setTop (mkF m 8 #[.val (.int p1), .val (.int p2), .unset, .unset, .unset] [(.ref b3)])) _
    refine XS.dup X4.here hx rfl (hb hby at_8) rfl rfl ?_
    show Steps p.tables e below (T4.setTop (mkF m 9 #[.val (.int p1), .val (.int p2), .unset, .unset, .unset] [(.ref b3), (.ref b3)])) _
    refine XS.iconst X4.here hx rfl (hb hby at_9) ?_
    show Steps p.tables e below (T4.setTop (mkF m 10 #[.val (.int p1), .val (.int p2), .unset, .unset, .unset] [(.int (1 : Int32)), (.ref b3), (.ref b3)])) _
    refine XS.iconst X4.here hx rfl (hb hby at_10) ?_
    show Steps p.tables e below (T4.setTop (mkF m 11 #[.val (.int p1), .val (.int p2), .unset, .unset, .unset] [(.int (2 : Int32)), (.int (1 : Int32)), (.ref b3), (.ref b3)])) _
    refine st5 _ ?_
    show Steps p.tables e below (T5.setTop (mkF m 12 #[.val (.int p1), .val (.int p2), .unset, .unset, .unset] [(.ref b3)])) _
    refine XS.dup X5.here hx rfl (hb hby at_12) rfl rfl ?_
    show Steps p.tables e below (T5.setTop (mkF m 13 #[.val (.int p1), .val (.int p2), .unset, .unset, .unset] [(.ref b3), (.ref b3)])) _
    refine XS.iconst X5.here hx rfl (hb hby at_13) ?_
    show Steps p.tables e below (T5.setTop (mkF m 14 #[.val (.int p1), .val (.int p2), .unset, .unset, .unset] [(.int (2 : Int32)), (.ref b3), (.ref b3)])) _
    refine XS.iconst X5.here hx rfl (hb hby at_14) ?_
    show Steps p.tables e below (T5.setTop (mkF m 15 #[.val (.int p1), .val (.int p2), .unset, .unset, .unset] [(.int (3 : Int32)), (.int (2 : Int32)), (.ref b3), (.ref b3)])) _
    refine st6 _ ?_
    show Steps p.tables e below (T6.setTop (mkF m 16 #[.val (.int p1), .val (.int p2), .unset, .unset, .unset] [(.ref b3)])) _
    refine XS.dup X6.here hx rfl (hb hby at_16) rfl rfl ?_
    show Steps p.tables e below (T6.setTop (mkF m 17 #[.val (.int p1), .val (.int p2), .unset, .unset, .unset] [(.ref b3), (.ref b3)])) _
    refine XS.iconst X6.here hx rfl (hb hby at_17) ?_
    show Steps p.tables e below (T6.setTop (mkF m 18 #[.val (.int p1), .val (.int p2), .unset, .unset, .unset] [(.int (3 : Int32)), (.ref b3), (.ref b3)])) _
    refine XS.iconst X6.here hx rfl (hb hby at_18) ?_
    show Steps p.tables e below (T6.setTop (mkF m 19 #[.val (.int p1), .val (.int p2), .unset, .unset, .unset] [(.int (4 : Int32)), (.int (3 : Int32)), (.ref b3), (.ref b3)])) _
    refine st7 _ ?_
    show Steps p.tables e below (T7.setTop (mkF m 20 #[.val (.int p1), .val (.int p2), .unset, .unset, .unset] [(.ref b3)])) _
    refine XS.dup X7.here hx rfl (hb hby at_20) rfl rfl ?_
    show Steps p.tables e below (T7.setTop (mkF m 21 #[.val (.int p1), .val (.int p2), .unset, .unset, .unset] [(.ref b3), (.ref b3)])) _
    refine XS.iconst X7.here hx rfl (hb hby at_21) ?_
    show Steps p.tables e below (T7.setTop (mkF m 22 #[.val (.int p1), .val (.int p2), .unset, .unset, .unset] [(.int (4 : Int32)), (.ref b3), (.ref b3)])) _
    refine XS.iconst X7.here hx rfl (hb hby at_22) ?_
    show Steps p.tables e below (T7.setTop (mkF m 23 #[.val (.int p1), .val (.int p2), .unset, .unset, .unset] [(.int (5 : Int32)), (.int (4 : Int32)), (.ref b3), (.ref b3)])) _
    refine st8 _ ?_
    show Steps p.tables e below (T8.setTop (mkF m 24 #[.val (.int p1), .val (.int p2), .unset, .unset, .unset] [(.ref b3)])) _
    refine XS.dup X8.here hx rfl (hb hby at_24) rfl rfl ?_
    show Steps p.tables e below (T8.setTop (mkF m 25 #[.val (.int p1), .val (.int p2), .unset, .unset, .unset] [(.ref b3), (.ref b3)])) _
    refine XS.iconst X8.here hx rfl (hb hby at_25) ?_
    show Steps p.tables e below (T8.setTop (mkF m 26 #[.val (.int p1), .val (.int p2), .unset, .unset, .unset] [(.int (5 : Int32)), (.ref b3), (.ref b3)])) _
    refine XS.bipush X8.here hx rfl (hb hby at_26) ?_
    show Steps p.tables e below (T8.setTop (mkF m 28 #[.val (.int p1), .val (.int p2), .unset, .unset, .unset] [(.int (6 : Int32)), (.int (5 : Int32)), (.ref b3), (.ref b3)])) _
    refine st9 _ ?_
    show Steps p.tables e below (T9.setTop (mkF m 29 #[.val (.int p1), .val (.int p2), .unset, .unset, .unset] [(.ref b3)])) _
    refine XS.dup X9.here hx rfl (hb hby at_29) rfl rfl ?_
    show Steps p.tables e below (T9.setTop (mkF m 30 #[.val (.int p1), .val (.int p2), .unset, .unset, .unset] [(.ref b3), (.ref b3)])) _
    refine XS.bipush X9.here hx rfl (hb hby at_30) ?_
    show Steps p.tables e below (T9.setTop (mkF m 32 #[.val (.int p1), .val (.int p2), .unset, .unset, .unset] [(.int (6 : Int32)), (.ref b3), (.ref b3)])) _
    refine XS.bipush X9.here hx rfl (hb hby at_32) ?_
    show Steps p.tables e below (T9.setTop (mkF m 34 #[.val (.int p1), .val (.int p2), .unset, .unset, .unset] [(.int (7 : Int32)), (.int (6 : Int32)), (.ref b3), (.ref b3)])) _
    refine st10 _ ?_
    show Steps p.tables e below (T10.setTop (mkF m 35 #[.val (.int p1), .val (.int p2), .unset, .unset, .unset] [(.ref b3)])) _
    refine XS.dup X10.here hx rfl (hb hby at_35) rfl rfl ?_
    show Steps p.tables e below (T10.setTop (mkF m 36 #[.val (.int p1), .val (.int p2), .unset, .unset, .unset] [(.ref b3), (.ref b3)])) _
    refine XS.bipush X10.here hx rfl (hb hby at_36) ?_
    show Steps p.tables e below (T10.setTop (mkF m 38 #[.val (.int p1), .val (.int p2), .unset, .unset, .unset] [(.int (7 : Int32)), (.ref b3), (.ref b3)])) _
    refine XS.bipush X10.here hx rfl (hb hby at_38) ?_
    show Steps p.tables e below (T10.setTop (mkF m 40 #[.val (.int p1), .val (.int p2), .unset, .unset, .unset] [(.int (8 : Int32)), (.int (7 : Int32)), (.ref b3), (.ref b3)])) _
    refine st11 _ ?_
    show Steps p.tables e below (T11.setTop (mkF m 41 #[.val (.int p1), .val (.int p2), .unset, .unset, .unset] [(.ref b3)])) _
    refine XS.dup X11.here hx rfl (hb hby at_41) rfl rfl ?_
    show Steps p.tables e below (T11.setTop (mkF m 42 #[.val (.int p1), .val (.int p2), .unset, .unset, .unset] [(.ref b3), (.ref b3)])) _
    refine XS.bipush X11.here hx rfl (hb hby at_42) ?_
    show Steps p.tables e below (T11.setTop (mkF m 44 #[.val (.int p1), .val (.int p2), .unset, .unset, .unset] [(.int (8 : Int32)), (.ref b3), (.ref b3)])) _
    refine XS.bipush X11.here hx rfl (hb hby at_44) ?_
    show Steps p.tables e below (T11.setTop (mkF m 46 #[.val (.int p1), .val (.int p2), .unset, .unset, .unset] [(.int (9 : Int32)), (.int (8 : Int32)), (.ref b3), (.ref b3)])) _
    refine st12 _ ?_
    show Steps p.tables e below (T12.setTop (mkF m 47 #[.val (.int p1), .val (.int p2), .unset, .unset, .unset] [(.ref b3)])) _
    refine XS.dup X12.here hx rfl (hb hby at_47) rfl rfl ?_
    show Steps p.tables e below (T12.setTop (mkF m 48 #[.val (.int p1), .val (.int p2), .unset, .unset, .unset] [(.ref b3), (.ref b3)])) _
    refine XS.bipush X12.here hx rfl (hb hby at_48) ?_
    show Steps p.tables e below (T12.setTop (mkF m 50 #[.val (.int p1), .val (.int p2), .unset, .unset, .unset] [(.int (9 : Int32)), (.ref b3), (.ref b3)])) _
    refine XS.bipush X12.here hx rfl (hb hby at_50) ?_
    show Steps p.tables e below (T12.setTop (mkF m 52 #[.val (.int p1), .val (.int p2), .unset, .unset, .unset] [(.int (11 : Int32)), (.int (9 : Int32)), (.ref b3), (.ref b3)])) _
    refine st13 _ ?_
    show Steps p.tables e below (T13.setTop (mkF m 53 #[.val (.int p1), .val (.int p2), .unset, .unset, .unset] [(.ref b3)])) _
    refine XS.dup X13.here hx rfl (hb hby at_53) rfl rfl ?_
    show Steps p.tables e below (T13.setTop (mkF m 54 #[.val (.int p1), .val (.int p2), .unset, .unset, .unset] [(.ref b3), (.ref b3)])) _
    refine XS.bipush X13.here hx rfl (hb hby at_54) ?_
    show Steps p.tables e below (T13.setTop (mkF m 56 #[.val (.int p1), .val (.int p2), .unset, .unset, .unset] [(.int (10 : Int32)), (.ref b3), (.ref b3)])) _
    refine XS.bipush X13.here hx rfl (hb hby at_56) ?_
    show Steps p.tables e below (T13.setTop (mkF m 58 #[.val (.int p1), .val (.int p2), .unset, .unset, .unset] [(.int (12 : Int32)), (.int (10 : Int32)), (.ref b3), (.ref b3)])) _
    refine st14 _ ?_
    show Steps p.tables e below (T14.setTop (mkF m 59 #[.val (.int p1), .val (.int p2), .unset, .unset, .unset] [(.ref b3)])) _
    refine XS.dup X14.here hx rfl (hb hby at_59) rfl rfl ?_
    show Steps p.tables e below (T14.setTop (mkF m 60 #[.val (.int p1), .val (.int p2), .unset, .unset, .unset] [(.ref b3), (.ref b3)])) _
    refine XS.bipush X14.here hx rfl (hb hby at_60) ?_
    show Steps p.tables e below (T14.setTop (mkF m 62 #[.val (.int p1), .val (.int p2), .unset, .unset, .unset] [(.int (11 : Int32)), (.ref b3), (.ref b3)])) _
    refine XS.bipush X14.here hx rfl (hb hby at_62) ?_
    show Steps p.tables e below (T14.setTop (mkF m 64 #[.val (.int p1), .val (.int p2), .unset, .unset, .unset] [(.int (13 : Int32)), (.int (11 : Int32)), (.ref b3), (.ref b3)])) _
    refine st15 _ ?_
    show Steps p.tables e below (T15.setTop (mkF m 65 #[.val (.int p1), .val (.int p2), .unset, .unset, .unset] [(.ref b3)])) _
    refine XS.dup X15.here hx rfl (hb hby at_65) rfl rfl ?_
    show Steps p.tables e below (T15.setTop (mkF m 66 #[.val (.int p1), .val (.int p2), .unset, .unset, .unset] [(.ref b3), (.ref b3)])) _
    refine XS.bipush X15.here hx rfl (hb hby at_66) ?_
    show Steps p.tables e below (T15.setTop (mkF m 68 #[.val (.int p1), .val (.int p2), .unset, .unset, .unset] [(.int (12 : Int32)), (.ref b3), (.ref b3)])) _
    refine XS.bipush X15.here hx rfl (hb hby at_68) ?_
    show Steps p.tables e below (T15.setTop (mkF m 70 #[.val (.int p1), .val (.int p2), .unset, .unset, .unset] [(.int (14 : Int32)), (.int (12 : Int32)), (.ref b3), (.ref b3)])) _
    refine st16 _ ?_
    show Steps p.tables e below (T16.setTop (mkF m 71 #[.val (.int p1), .val (.int p2), .unset, .unset, .unset] [(.ref b3)])) _
    refine XS.dup X16.here hx rfl (hb hby at_71) rfl rfl ?_
    show Steps p.tables e below (T16.setTop (mkF m 72 #[.val (.int p1), .val (.int p2), .unset, .unset, .unset] [(.ref b3), (.ref b3)])) _
    refine XS.bipush X16.here hx rfl (hb hby at_72) ?_
    show Steps p.tables e below (T16.setTop (mkF m 74 #[.val (.int p1), .val (.int p2), .unset, .unset, .unset] [(.int (13 : Int32)), (.ref b3), (.ref b3)])) _
    refine XS.bipush X16.here hx rfl (hb hby at_74) ?_
    show Steps p.tables e below (T16.setTop (mkF m 76 #[.val (.int p1), .val (.int p2), .unset, .unset, .unset] [(.int (15 : Int32)), (.int (13 : Int32)), (.ref b3), (.ref b3)])) _
    refine st17 _ ?_
    show Steps p.tables e below (T17.setTop (mkF m 77 #[.val (.int p1), .val (.int p2), .unset, .unset, .unset] [(.ref b3)])) _
    refine XS.dup X17.here hx rfl (hb hby at_77) rfl rfl ?_
    show Steps p.tables e below (T17.setTop (mkF m 78 #[.val (.int p1), .val (.int p2), .unset, .unset, .unset] [(.ref b3), (.ref b3)])) _
    refine XS.bipush X17.here hx rfl (hb hby at_78) ?_
    show Steps p.tables e below (T17.setTop (mkF m 80 #[.val (.int p1), .val (.int p2), .unset, .unset, .unset] [(.int (14 : Int32)), (.ref b3), (.ref b3)])) _
    refine XS.bipush X17.here hx rfl (hb hby at_80) ?_
    show Steps p.tables e below (T17.setTop (mkF m 82 #[.val (.int p1), .val (.int p2), .unset, .unset, .unset] [(.int (100 : Int32)), (.int (14 : Int32)), (.ref b3), (.ref b3)])) _
    refine st18 _ ?_
    show Steps p.tables e below (T18.setTop (mkF m 83 #[.val (.int p1), .val (.int p2), .unset, .unset, .unset] [(.ref b3)])) _
    refine XS.dup X18.here hx rfl (hb hby at_83) rfl rfl ?_
    show Steps p.tables e below (T18.setTop (mkF m 84 #[.val (.int p1), .val (.int p2), .unset, .unset, .unset] [(.ref b3), (.ref b3)])) _
    refine XS.bipush X18.here hx rfl (hb hby at_84) ?_
    show Steps p.tables e below (T18.setTop (mkF m 86 #[.val (.int p1), .val (.int p2), .unset, .unset, .unset] [(.int (15 : Int32)), (.ref b3), (.ref b3)])) _
    refine XS.bipush X18.here hx rfl (hb hby at_86) ?_
    show Steps p.tables e below (T18.setTop (mkF m 88 #[.val (.int p1), .val (.int p2), .unset, .unset, .unset] [(.int (101 : Int32)), (.int (15 : Int32)), (.ref b3), (.ref b3)])) _
    refine st19 _ ?_
    show Steps p.tables e below (T19.setTop (mkF m 89 #[.val (.int p1), .val (.int p2), .unset, .unset, .unset] [(.ref b3)])) _
    refine XS.dup X19.here hx rfl (hb hby at_89) rfl rfl ?_
    show Steps p.tables e below (T19.setTop (mkF m 90 #[.val (.int p1), .val (.int p2), .unset, .unset, .unset] [(.ref b3), (.ref b3)])) _
    refine XS.bipush X19.here hx rfl (hb hby at_90) ?_
    show Steps p.tables e below (T19.setTop (mkF m 92 #[.val (.int p1), .val (.int p2), .unset, .unset, .unset] [(.int (16 : Int32)), (.ref b3), (.ref b3)])) _
    refine XS.bipush X19.here hx rfl (hb hby at_92) ?_
    show Steps p.tables e below (T19.setTop (mkF m 94 #[.val (.int p1), .val (.int p2), .unset, .unset, .unset] [(.int (-11 : Int32)), (.int (16 : Int32)), (.ref b3), (.ref b3)])) _
    refine st20 _ ?_
    show Steps p.tables e below (T20.setTop (mkF m 95 #[.val (.int p1), .val (.int p2), .unset, .unset, .unset] [(.ref b3)])) _
    refine XS.astoreN X20.here hx rfl (hb hby at_95) rfl rfl (l' := #[.val (.int p1), .val (.int p2), .val (.ref b3), .unset, .unset]) rfl ?_
    show Steps p.tables e below (T20.setTop (mkF m 96 #[.val (.int p1), .val (.int p2), .val (.ref b3), .unset, .unset] [])) _
    refine XS.iloadN X20.here hx rfl (hb hby at_96) rfl ?_
    show Steps p.tables e below (T20.setTop (mkF m 97 #[.val (.int p1), .val (.int p2), .val (.ref b3), .unset, .unset] [(.int p2)])) _
    refine XS.bipush X20.here hx rfl (hb hby at_97) ?_
    show Steps p.tables e below (T20.setTop (mkF m 99 #[.val (.int p1), .val (.int p2), .val (.ref b3), .unset, .unset] [(.int (31 : Int32)), (.int p2)])) _
    refine XS.iand X20.here hx rfl (hb hby at_99) rfl ?_
    show Steps p.tables e below (T20.setTop (mkF m 100 #[.val (.int p1), .val (.int p2), .val (.ref b3), .unset, .unset] [(.int (p2 &&& (31 : Int32)))])) _
    refine XS.istoreN X20.here hx rfl (hb hby at_100) rfl (l' := #[.val (.int p1), .val (.int p2), .val (.ref b3), .val (.int (p2 &&& (31 : Int32))), .unset]) rfl ?_
    show Steps p.tables e below (T20.setTop (mkF m 101 #[.val (.int p1), .val (.int p2), .val (.ref b3), .val (.int (p2 &&& (31 : Int32))), .unset] [])) _
    refine XS.iloadN X20.here hx rfl (hb hby at_101) rfl ?_
    show Steps p.tables e below (T20.setTop (mkF m 102 #[.val (.int p1), .val (.int p2), .val (.ref b3), .val (.int (p2 &&& (31 : Int32))), .unset] [(.int (p2 &&& (31 : Int32)))])) _
    refine XS.bipush X20.here hx rfl (hb hby at_102) ?_
    show Steps p.tables e below (T20.setTop (mkF m 104 #[.val (.int p1), .val (.int p2), .val (.ref b3), .val (.int (p2 &&& (31 : Int32))), .unset] [(.int (17 : Int32)), (.int (p2 &&& (31 : Int32)))])) _
    refine XS.icmpYes X20.here hx rfl (pc0 := 104) (pc' := 115) rfl (hb hby at_104) rfl (flt hc104).2.1 (by decide) (by decide) ?_
    show Steps p.tables e below (T20.setTop (mkF m 115 #[.val (.int p1), .val (.int p2), .val (.ref b3), .val (.int (p2 &&& (31 : Int32))), .unset] [])) _
    refine XS.iloadN X20.here hx rfl (hb hby at_115) rfl ?_
    show Steps p.tables e below (T20.setTop (mkF m 116 #[.val (.int p1), .val (.int p2), .val (.ref b3), .val (.int (p2 &&& (31 : Int32))), .unset] [(.int (p2 &&& (31 : Int32)))])) _
    refine XS.bipush X20.here hx rfl (hb hby at_116) ?_
    show Steps p.tables e below (T20.setTop (mkF m 118 #[.val (.int p1), .val (.int p2), .val (.ref b3), .val (.int (p2 &&& (31 : Int32))), .unset] [(.int (24 : Int32)), (.int (p2 &&& (31 : Int32)))])) _
    refine XS.icmpNo X20.here hx rfl (hb hby at_118) rfl (tlt hc118).2.1 ?_
    show Steps p.tables e below (T20.setTop (mkF m 121 #[.val (.int p1), .val (.int p2), .val (.ref b3), .val (.int (p2 &&& (31 : Int32))), .unset] [])) _
    refine XS.iloadN X20.here hx rfl (hb hby at_121) rfl ?_
    show Steps p.tables e below (T20.setTop (mkF m 122 #[.val (.int p1), .val (.int p2), .val (.ref b3), .val (.int (p2 &&& (31 : Int32))), .unset] [(.int p1)])) _
    refine XS.sipush X20.here hx rfl (hb hby at_122) ?_
    show Steps p.tables e below (T20.setTop (mkF m 125 #[.val (.int p1), .val (.int p2), .val (.ref b3), .val (.int (p2 &&& (31 : Int32))), .unset] [(.int (255 : Int32)), (.int p1)])) _
    refine XS.iand X20.here hx rfl (hb hby at_125) rfl ?_
    show Steps p.tables e below (T20.setTop (mkF m 126 #[.val (.int p1), .val (.int p2), .val (.ref b3), .val (.int (p2 &&& (31 : Int32))), .unset] [(.int (p1 &&& (255 : Int32)))])) _
    refine XS.sipush X20.here hx rfl (hb hby at_126) ?_
    show Steps p.tables e below (T20.setTop (mkF m 129 #[.val (.int p1), .val (.int p2), .val (.ref b3), .val (.int (p2 &&& (31 : Int32))), .unset] [(.int (128 : Int32)), (.int (p1 &&& (255 : Int32)))])) _
    refine XS.isub X20.here hx rfl (hb hby at_129) rfl ?_
    show Steps p.tables e below (T20.setTop (mkF m 130 #[.val (.int p1), .val (.int p2), .val (.ref b3), .val (.int (p2 &&& (31 : Int32))), .unset] [(.int ((p1 &&& (255 : Int32)) - (128 : Int32)))])) _
    refine XS.istore X20.here hx rfl (hb hby at_130) rfl (l' := #[.val (.int p1), .val (.int p2), .val (.ref b3), .val (.int (p2 &&& (31 : Int32))), .val (.int ((p1 &&& (255 : Int32)) - (128 : Int32)))]) rfl ?_
    show Steps p.tables e below (T20.setTop (mkF m 132 #[.val (.int p1), .val (.int p2), .val (.ref b3), .val (.int (p2 &&& (31 : Int32))), .val (.int ((p1 &&& (255 : Int32)) - (128 : Int32)))] [])) _
    refine XS.goto X20.here hx rfl (pc0 := 132) (pc' := 138) rfl (hb hby at_132) (by decide) (by decide) ?_
    show Steps p.tables e below (T20.setTop (mkF m 138 #[.val (.int p1), .val (.int p2), .val (.ref b3), .val (.int (p2 &&& (31 : Int32))), .val (.int ((p1 &&& (255 : Int32)) - (128 : Int32)))] [])) _
    refine XS.iload X20.here hx rfl (hb hby at_138) rfl ?_
    show Steps p.tables e below (T20.setTop (mkF m 140 #[.val (.int p1), .val (.int p2), .val (.ref b3), .val (.int (p2 &&& (31 : Int32))), .val (.int ((p1 &&& (255 : Int32)) - (128 : Int32)))] [(.int ((p1 &&& (255 : Int32)) - (128 : Int32)))])) _
    refine st21 _ ?_
    show Steps p.tables e below (T21.setTop (mkF m 143 #[.val (.int p1), .val (.int p2), .val (.ref b3), .val (.int (p2 &&& (31 : Int32))), .val (.int ((p1 &&& (255 : Int32)) - (128 : Int32)))] [.null])) _
    refine XS.iload X21.here hx rfl (hb hby at_143) rfl ?_
    show Steps p.tables e below (T21.setTop (mkF m 145 #[.val (.int p1), .val (.int p2), .val (.ref b3), .val (.int (p2 &&& (31 : Int32))), .val (.int ((p1 &&& (255 : Int32)) - (128 : Int32)))] [(.int ((p1 &&& (255 : Int32)) - (128 : Int32))), .null])) _
    refine st22 _ ?_
    show Steps p.tables e below (T22.setTop (mkF m 148 #[.val (.int p1), .val (.int p2), .val (.ref b3), .val (.int (p2 &&& (31 : Int32))), .val (.int ((p1 &&& (255 : Int32)) - (128 : Int32)))] [.null, .null])) _
    refine Jvm.RoadKit.acmp (g := (mkF m 148 #[.val (.int p1), .val (.int p2), .val (.ref b3), .val (.int (p2 &&& (31 : Int32))), .val (.int ((p1 &&& (255 : Int32)) - (128 : Int32)))] [.null, .null])) X22 hx rfl rfl rfl (pc0 := 148) (pc' := 151) (same := true) rfl (hb hby at_148) rfl (decide_eq_true rfl) (by decide) (by decide) ?_
    show Steps p.tables e below (T22.setTop (mkF m 151 #[.val (.int p1), .val (.int p2), .val (.ref b3), .val (.int (p2 &&& (31 : Int32))), .val (.int ((p1 &&& (255 : Int32)) - (128 : Int32)))] [])) _
    refine XS.iconst X22.here hx rfl (hb hby at_151) ?_
    show Steps p.tables e below (T22.setTop (mkF m 152 #[.val (.int p1), .val (.int p2), .val (.ref b3), .val (.int (p2 &&& (31 : Int32))), .val (.int ((p1 &&& (255 : Int32)) - (128 : Int32)))] [(.int (1 : Int32))])) _
    refine XS.goto X22.here hx rfl (pc0 := 152) (pc' := 156) rfl (hb hby at_152) (by decide) (by decide) ?_
    show Steps p.tables e below (T22.setTop (mkF m 156 #[.val (.int p1), .val (.int p2), .val (.ref b3), .val (.int (p2 &&& (31 : Int32))), .val (.int ((p1 &&& (255 : Int32)) - (128 : Int32)))] [(.int (1 : Int32))])) _
    exact retN X22 hx (t := .boolean) Bd.returns (by simp) (hb hby at_156) hr
  · show Q0 n0 _ T22.heap _
    rw [eq22]
    exact ⟨rfl, N22⟩

set_option maxRecDepth 65536 in
set_option maxHeartbeats 40000000 in
theorem rm0_20 (l : Launch) (Z : State) (a0 : Array Value) (hw : ∀ d ∈ tables_1, d.before a0 Z = true) (ws : List Jvm.Cond) (p1 : Int32) (p2 : Int32) (aA : Addr) (cl : Cell) (w : Nat → Addr) (ww : Addr) (h0 : Heap) (n0 : Nat) (Z0 : n0 ≤ h0.size) (OF : OpF Z h0 aA cl w) (HS : Spc w p1 (.ref ww)) (hc104 : ¬ ((p2 &&& (31 : Int32)) < (17 : Int32))) (hc118 : ¬ ((p2 &&& (31 : Int32)) < (24 : Int32))) :
    MetFree l x (head1 (Jvm.Cond.code x code maxLocals ret :: ws) room_1) (fun a U => a = #[(.int p1), (.int p2)] ∧ Z.Warmed39 U.vm ∧ U.heap = h0) (fun _ _ _ _ _ => True) (fun _ U o U' => ∃ v L, o = .returned v ∧ Q0 n0 v U'.heap L ∧ FrameEnd U o U' L room_1.cells room_1.slots) := by
  refine MetFree.of_bodySF (plainFor_of_name pn_0) hisR ?_
  intro p e s m args below meth c s₁ Bd hml0 hP hK
  obtain ⟨rfl, hZ, hh⟩ := hP
  have hx := Bd.exec
  have hby := Bd.bytes
  have hml : c.maxLocals = 5 := hml0
  have hown : s.vm.findClass "com/example/ulmus/ulmus/core/wire/OpCodeOfPinLaw" = some m.cls := findClass_of_methodNamed Bd.named
  have hnm := (name_of_methodNamed Bd.named Bd.method).1
  have X0 : Stand p l e room_1 s m #[(.int p1), (.int p2)] below meth c s₁ [] 0 0 := Stand.of_body Bd
  have e0 : s₁.heap = h0 := by rw [← hh, Bd.state]; rfl
  have N0 := Fr.nil n0
  have pre0 : ∀ t, Steps p.tables e below (s₁.setTop (mkF m 0 #[.val (.int p1), .val (.int p2), .unset, .unset, .unset] [])) t → Steps p.tables e below (s₁.setTop (entryFrame m #[(.int p1), (.int p2)] maxLocals)) t := fun t k => castTop (ef_0 m p1 p2) k
  obtain ⟨T3, h3, k3, X3, e3, E3, A3, st3⟩ := newP X0 hx hZ (hw _ (List.mem_of_getElem? (i := 0) rfl)) e0 (g := (mkF m 2 #[.val (.int p1), .val (.int p2), .unset, .unset, .unset] [(.int (17 : Int32))])) rfl (hb hby at_2) rfl (by decide) (cap := 17) (by decide) (by decide) (by decide) (by decide)
  obtain ⟨b3, g3⟩ : ∃ z, z = h0.size := ⟨_, rfl⟩      -- the fresh array's address
  rw [← g3] at A3 st3
  have V_b3 : Arv Z h3 b3 k3 .int (17 : Int32) [(.int (0 : Int32)), (.int (0 : Int32)), (.int (0 : Int32)), (.int (0 : Int32)), (.int (0 : Int32)), (.int (0 : Int32)), (.int (0 : Int32)), (.int (0 : Int32)), (.int (0 : Int32)), (.int (0 : Int32)), (.int (0 : Int32)), (.int (0 : Int32)), (.int (0 : Int32)), (.int (0 : Int32)), (.int (0 : Int32)), (.int (0 : Int32)), (.int (0 : Int32))] (.int (0 : Int32)) := (Arv.new A3 (by decide)).pad (pad_rep [] (.int (0 : Int32)) 17)
  have g_b3 : n0 ≤ b3 := Nat.le_trans Z0 (Nat.le_of_eq g3.symm)
  have sz_b3 : h0.size ≤ b3 := (Nat.le_trans (Keep.refl h0 []).1 (Nat.le_of_eq g3.symm))
  have K3 : Keep h0 h3 [] := (Keep.refl h0 []).ext E3
  obtain ⟨cl_b3_7, Ar_b3, q_b3, S_b3, N_b3, H_b3, G_b3⟩ := V_b3      -- open the array's fact as it stands now (its cell, kind, length, elements)
  have hin7 : ¬ ((0 : Int32) < 0 ∨ cl_b3_7.slots.size ≤ ((0 : Int32)).toNatClampNeg) := inb_of S_b3 ⟨by decide, by decide⟩
  obtain ⟨T4, h4, X4, e4, W4, st4⟩ := stI X3 hx hZ e3 Ar_b3 (j := (0 : Int32)) hin7 (g := (mkF m 7 #[.val (.int p1), .val (.int p2), .unset, .unset, .unset] [(.int (1 : Int32)), (.int (0 : Int32)), (.ref b3), (.ref b3)])) rfl rfl (hb hby at_7)
  have V_b3_4 := Arv.set Ar_b3 q_b3 S_b3 N_b3 H_b3 G_b3 rfl W4 0 rfl (Nat.le_of_ble_eq_true rfl)      -- the array as it stands now (the place must lie among its first values: Arv.pad with pad_rep lengthens them)
  have K4 : Keep h0 h4 [] := K3.wr W4 (Or.inr sz_b3)
  have N4 := Fr.snoc X4 N0 g_b3
  obtain ⟨cl_b3_11, Ar_b3, q_b3, S_b3, N_b3, H_b3, G_b3⟩ := V_b3_4      -- open the array's fact as it stands now (its cell, kind, length, elements)
  have hin11 : ¬ ((1 : Int32) < 0 ∨ cl_b3_11.slots.size ≤ ((1 : Int32)).toNatClampNeg) := inb_of S_b3 ⟨by decide, by decide⟩
  obtain ⟨T5, h5, X5, e5, W5, st5⟩ := stI X4 hx hZ e4 Ar_b3 (j := (1 : Int32)) hin11 (g := (mkF m 11 #[.val (.int p1), .val (.int p2), .unset, .unset, .unset] [(.int (2 : Int32)), (.int (1 : Int32)), (.ref b3), (.ref b3)])) rfl rfl (hb hby at_11)
  have V_b3_5 := Arv.set Ar_b3 q_b3 S_b3 N_b3 H_b3 G_b3 rfl W5 1 rfl (Nat.le_of_ble_eq_true rfl)      -- the array as it stands now (the place must lie among its first values: Arv.pad with pad_rep lengthens them)
  have K5 : Keep h0 h5 [] := K4.wr W5 (Or.inr sz_b3)
  have N5 := Fr.snoc X5 N4 g_b3
  obtain ⟨cl_b3_15, Ar_b3, q_b3, S_b3, N_b3, H_b3, G_b3⟩ := V_b3_5      -- open the array's fact as it stands now (its cell, kind, length, elements)
  have hin15 : ¬ ((2 : Int32) < 0 ∨ cl_b3_15.slots.size ≤ ((2 : Int32)).toNatClampNeg) := inb_of S_b3 ⟨by decide, by decide⟩
  obtain ⟨T6, h6, X6, e6, W6, st6⟩ := stI X5 hx hZ e5 Ar_b3 (j := (2 : Int32)) hin15 (g := (mkF m 15 #[.val (.int p1), .val (.int p2), .unset, .unset, .unset] [(.int (3 : Int32)), (.int (2 : Int32)), (.ref b3), (.ref b3)])) rfl rfl (hb hby at_15)
  have V_b3_6 := Arv.set Ar_b3 q_b3 S_b3 N_b3 H_b3 G_b3 rfl W6 2 rfl (Nat.le_of_ble_eq_true rfl)      -- the array as it stands now (the place must lie among its first values: Arv.pad with pad_rep lengthens them)
  have K6 : Keep h0 h6 [] := K5.wr W6 (Or.inr sz_b3)
  have N6 := Fr.snoc X6 N5 g_b3
  obtain ⟨cl_b3_19, Ar_b3, q_b3, S_b3, N_b3, H_b3, G_b3⟩ := V_b3_6      -- open the array's fact as it stands now (its cell, kind, length, elements)
  have hin19 : ¬ ((3 : Int32) < 0 ∨ cl_b3_19.slots.size ≤ ((3 : Int32)).toNatClampNeg) := inb_of S_b3 ⟨by decide, by decide⟩
  obtain ⟨T7, h7, X7, e7, W7, st7⟩ := stI X6 hx hZ e6 Ar_b3 (j := (3 : Int32)) hin19 (g := (mkF m 19 #[.val (.int p1), .val (.int p2), .unset, .unset, .unset] [(.int (4 : Int32)), (.int (3 : Int32)), (.ref b3), (.ref b3)])) rfl rfl (hb hby at_19)
  have V_b3_7 := Arv.set Ar_b3 q_b3 S_b3 N_b3 H_b3 G_b3 rfl W7 3 rfl (Nat.le_of_ble_eq_true rfl)      -- the array as it stands now (the place must lie among its first values: Arv.pad with pad_rep lengthens them)
  have K7 : Keep h0 h7 [] := K6.wr W7 (Or.inr sz_b3)
  have N7 := Fr.snoc X7 N6 g_b3
  obtain ⟨cl_b3_23, Ar_b3, q_b3, S_b3, N_b3, H_b3, G_b3⟩ := V_b3_7      -- open the array's fact as it stands now (its cell, kind, length, elements)
  have hin23 : ¬ ((4 : Int32) < 0 ∨ cl_b3_23.slots.size ≤ ((4 : Int32)).toNatClampNeg) := inb_of S_b3 ⟨by decide, by decide⟩
  obtain ⟨T8, h8, X8, e8, W8, st8⟩ := stI X7 hx hZ e7 Ar_b3 (j := (4 : Int32)) hin23 (g := (mkF m 23 #[.val (.int p1), .val (.int p2), .unset, .unset, .unset] [(.int (5 : Int32)), (.int (4 : Int32)), (.ref b3), (.ref b3)])) rfl rfl (hb hby at_23)
  have V_b3_8 := Arv.set Ar_b3 q_b3 S_b3 N_b3 H_b3 G_b3 rfl W8 4 rfl (Nat.le_of_ble_eq_true rfl)      -- the array as it stands now (the place must lie among its first values: Arv.pad with pad_rep lengthens them)
  have K8 : Keep h0 h8 [] := K7.wr W8 (Or.inr sz_b3)
  have N8 := Fr.snoc X8 N7 g_b3
  obtain ⟨cl_b3_28, Ar_b3, q_b3, S_b3, N_b3, H_b3, G_b3⟩ := V_b3_8      -- open the array's fact as it stands now (its cell, kind, length, elements)
  have hin28 : ¬ ((5 : Int32) < 0 ∨ cl_b3_28.slots.size ≤ ((5 : Int32)).toNatClampNeg) := inb_of S_b3 ⟨by decide, by decide⟩
  obtain ⟨T9, h9, X9, e9, W9, st9⟩ := stI X8 hx hZ e8 Ar_b3 (j := (5 : Int32)) hin28 (g := (mkF m 28 #[.val (.int p1), .val (.int p2), .unset, .unset, .unset] [(.int (6 : Int32)), (.int (5 : Int32)), (.ref b3), (.ref b3)])) rfl rfl (hb hby at_28)
  have V_b3_9 := Arv.set Ar_b3 q_b3 S_b3 N_b3 H_b3 G_b3 rfl W9 5 rfl (Nat.le_of_ble_eq_true rfl)      -- the array as it stands now (the place must lie among its first values: Arv.pad with pad_rep lengthens them)
  have K9 : Keep h0 h9 [] := K8.wr W9 (Or.inr sz_b3)
  have N9 := Fr.snoc X9 N8 g_b3
  obtain ⟨cl_b3_34, Ar_b3, q_b3, S_b3, N_b3, H_b3, G_b3⟩ := V_b3_9      -- open the array's fact as it stands now (its cell, kind, length, elements)
  have hin34 : ¬ ((6 : Int32) < 0 ∨ cl_b3_34.slots.size ≤ ((6 : Int32)).toNatClampNeg) := inb_of S_b3 ⟨by decide, by decide⟩
  obtain ⟨T10, h10, X10, e10, W10, st10⟩ := stI X9 hx hZ e9 Ar_b3 (j := (6 : Int32)) hin34 (g := (mkF m 34 #[.val (.int p1), .val (.int p2), .unset, .unset, .unset] [(.int (7 : Int32)), (.int (6 : Int32)), (.ref b3), (.ref b3)])) rfl rfl (hb hby at_34)
  have V_b3_10 := Arv.set Ar_b3 q_b3 S_b3 N_b3 H_b3 G_b3 rfl W10 6 rfl (Nat.le_of_ble_eq_true rfl)      -- the array as it stands now (the place must lie among its first values: Arv.pad with pad_rep lengthens them)
  have K10 : Keep h0 h10 [] := K9.wr W10 (Or.inr sz_b3)
  have N10 := Fr.snoc X10 N9 g_b3
  obtain ⟨cl_b3_40, Ar_b3, q_b3, S_b3, N_b3, H_b3, G_b3⟩ := V_b3_10      -- open the array's fact as it stands now (its cell, kind, length, elements)
  have hin40 : ¬ ((7 : Int32) < 0 ∨ cl_b3_40.slots.size ≤ ((7 : Int32)).toNatClampNeg) := inb_of S_b3 ⟨by decide, by decide⟩
  obtain ⟨T11, h11, X11, e11, W11, st11⟩ := stI X10 hx hZ e10 Ar_b3 (j := (7 : Int32)) hin40 (g := (mkF m 40 #[.val (.int p1), .val (.int p2), .unset, .unset, .unset] [(.int (8 : Int32)), (.int (7 : Int32)), (.ref b3), (.ref b3)])) rfl rfl (hb hby at_40)
  have V_b3_11 := Arv.set Ar_b3 q_b3 S_b3 N_b3 H_b3 G_b3 rfl W11 7 rfl (Nat.le_of_ble_eq_true rfl)      -- the array as it stands now (the place must lie among its first values: Arv.pad with pad_rep lengthens them)
  have K11 : Keep h0 h11 [] := K10.wr W11 (Or.inr sz_b3)
  have N11 := Fr.snoc X11 N10 g_b3
  obtain ⟨cl_b3_46, Ar_b3, q_b3, S_b3, N_b3, H_b3, G_b3⟩ := V_b3_11      -- open the array's fact as it stands now (its cell, kind, length, elements)
  have hin46 : ¬ ((8 : Int32) < 0 ∨ cl_b3_46.slots.size ≤ ((8 : Int32)).toNatClampNeg) := inb_of S_b3 ⟨by decide, by decide⟩
  obtain ⟨T12, h12, X12, e12, W12, st12⟩ := stI X11 hx hZ e11 Ar_b3 (j := (8 : Int32)) hin46 (g := (mkF m 46 #[.val (.int p1), .val (.int p2), .unset, .unset, .unset] [(.int (9 : Int32)), (.int (8 : Int32)), (.ref b3), (.ref b3)])) rfl rfl (hb hby at_46)
  have V_b3_12 := Arv.set Ar_b3 q_b3 S_b3 N_b3 H_b3 G_b3 rfl W12 8 rfl (Nat.le_of_ble_eq_true rfl)      -- the array as it stands now (the place must lie among its first values: Arv.pad with pad_rep lengthens them)
  have K12 : Keep h0 h12 [] := K11.wr W12 (Or.inr sz_b3)
  have N12 := Fr.snoc X12 N11 g_b3
  obtain ⟨cl_b3_52, Ar_b3, q_b3, S_b3, N_b3, H_b3, G_b3⟩ := V_b3_12      -- open the array's fact as it stands now (its cell, kind, length, elements)
  have hin52 : ¬ ((9 : Int32) < 0 ∨ cl_b3_52.slots.size ≤ ((9 : Int32)).toNatClampNeg) := inb_of S_b3 ⟨by decide, by decide⟩
  obtain ⟨T13, h13, X13, e13, W13, st13⟩ := stI X12 hx hZ e12 Ar_b3 (j := (9 : Int32)) hin52 (g := (mkF m 52 #[.val (.int p1), .val (.int p2), .unset, .unset, .unset] [(.int (11 : Int32)), (.int (9 : Int32)), (.ref b3), (.ref b3)])) rfl rfl (hb hby at_52)
  have V_b3_13 := Arv.set Ar_b3 q_b3 S_b3 N_b3 H_b3 G_b3 rfl W13 9 rfl (Nat.le_of_ble_eq_true rfl)      -- the array as it stands now (the place must lie among its first values: Arv.pad with pad_rep lengthens them)
  have K13 : Keep h0 h13 [] := K12.wr W13 (Or.inr sz_b3)
  have N13 := Fr.snoc X13 N12 g_b3
  obtain ⟨cl_b3_58, Ar_b3, q_b3, S_b3, N_b3, H_b3, G_b3⟩ := V_b3_13      -- open the array's fact as it stands now (its cell, kind, length, elements)
  have hin58 : ¬ ((10 : Int32) < 0 ∨ cl_b3_58.slots.size ≤ ((10 : Int32)).toNatClampNeg) := inb_of S_b3 ⟨by decide, by decide⟩
  obtain ⟨T14, h14, X14, e14, W14, st14⟩ := stI X13 hx hZ e13 Ar_b3 (j := (10 : Int32)) hin58 (g := (mkF m 58 #[.val (.int p1), .val (.int p2), .unset, .unset, .unset] [(.int (12 : Int32)), (.int (10 : Int32)), (.ref b3), (.ref b3)])) rfl rfl (hb hby at_58)
  have V_b3_14 := Arv.set Ar_b3 q_b3 S_b3 N_b3 H_b3 G_b3 rfl W14 10 rfl (Nat.le_of_ble_eq_true rfl)      -- the array as it stands now (the place must lie among its first values: Arv.pad with pad_rep lengthens them)
  have K14 : Keep h0 h14 [] := K13.wr W14 (Or.inr sz_b3)
  have N14 := Fr.snoc X14 N13 g_b3
  obtain ⟨cl_b3_64, Ar_b3, q_b3, S_b3, N_b3, H_b3, G_b3⟩ := V_b3_14      -- open the array's fact as it stands now (its cell, kind, length, elements)
  have hin64 : ¬ ((11 : Int32) < 0 ∨ cl_b3_64.slots.size ≤ ((11 : Int32)).toNatClampNeg) := inb_of S_b3 ⟨by decide, by decide⟩
  obtain ⟨T15, h15, X15, e15, W15, st15⟩ := stI X14 hx hZ e14 Ar_b3 (j := (11 : Int32)) hin64 (g := (mkF m 64 #[.val (.int p1), .val (.int p2), .unset, .unset, .unset] [(.int (13 : Int32)), (.int (11 : Int32)), (.ref b3), (.ref b3)])) rfl rfl (hb hby at_64)
  have V_b3_15 := Arv.set Ar_b3 q_b3 S_b3 N_b3 H_b3 G_b3 rfl W15 11 rfl (Nat.le_of_ble_eq_true rfl)      -- the array as it stands now (the place must lie among its first values: Arv.pad with pad_rep lengthens them)
  have K15 : Keep h0 h15 [] := K14.wr W15 (Or.inr sz_b3)
  have N15 := Fr.snoc X15 N14 g_b3
  obtain ⟨cl_b3_70, Ar_b3, q_b3, S_b3, N_b3, H_b3, G_b3⟩ := V_b3_15      -- open the array's fact as it stands now (its cell, kind, length, elements)
  have hin70 : ¬ ((12 : Int32) < 0 ∨ cl_b3_70.slots.size ≤ ((12 : Int32)).toNatClampNeg) := inb_of S_b3 ⟨by decide, by decide⟩
  obtain ⟨T16, h16, X16, e16, W16, st16⟩ := stI X15 hx hZ e15 Ar_b3 (j := (12 : Int32)) hin70 (g := (mkF m 70 #[.val (.int p1), .val (.int p2), .unset, .unset, .unset] [(.int (14 : Int32)), (.int (12 : Int32)), (.ref b3), (.ref b3)])) rfl rfl (hb hby at_70)
  have V_b3_16 := Arv.set Ar_b3 q_b3 S_b3 N_b3 H_b3 G_b3 rfl W16 12 rfl (Nat.le_of_ble_eq_true rfl)      -- the array as it stands now (the place must lie among its first values: Arv.pad with pad_rep lengthens them)
  have K16 : Keep h0 h16 [] := K15.wr W16 (Or.inr sz_b3)
  have N16 := Fr.snoc X16 N15 g_b3
  obtain ⟨cl_b3_76, Ar_b3, q_b3, S_b3, N_b3, H_b3, G_b3⟩ := V_b3_16      -- open the array's fact as it stands now (its cell, kind, length, elements)
  have hin76 : ¬ ((13 : Int32) < 0 ∨ cl_b3_76.slots.size ≤ ((13 : Int32)).toNatClampNeg) := inb_of S_b3 ⟨by decide, by decide⟩
  obtain ⟨T17, h17, X17, e17, W17, st17⟩ := stI X16 hx hZ e16 Ar_b3 (j := (13 : Int32)) hin76 (g := (mkF m 76 #[.val (.int p1), .val (.int p2), .unset, .unset, .unset] [(.int (15 : Int32)), (.int (13 : Int32)), (.ref b3), (.ref b3)])) rfl rfl (hb hby at_76)
  have V_b3_17 := Arv.set Ar_b3 q_b3 S_b3 N_b3 H_b3 G_b3 rfl W17 13 rfl (Nat.le_of_ble_eq_true rfl)      -- the array as it stands now (the place must lie among its first values: Arv.pad with pad_rep lengthens them)
  have K17 : Keep h0 h17 [] := K16.wr W17 (Or.inr sz_b3)
  have N17 := Fr.snoc X17 N16 g_b3
  obtain ⟨cl_b3_82, Ar_b3, q_b3, S_b3, N_b3, H_b3, G_b3⟩ := V_b3_17      -- open the array's fact as it stands now (its cell, kind, length, elements)
  have hin82 : ¬ ((14 : Int32) < 0 ∨ cl_b3_82.slots.size ≤ ((14 : Int32)).toNatClampNeg) := inb_of S_b3 ⟨by decide, by decide⟩
  obtain ⟨T18, h18, X18, e18, W18, st18⟩ := stI X17 hx hZ e17 Ar_b3 (j := (14 : Int32)) hin82 (g := (mkF m 82 #[.val (.int p1), .val (.int p2), .unset, .unset, .unset] [(.int (100 : Int32)), (.int (14 : Int32)), (.ref b3), (.ref b3)])) rfl rfl (hb hby at_82)
  have V_b3_18 := Arv.set Ar_b3 q_b3 S_b3 N_b3 H_b3 G_b3 rfl W18 14 rfl (Nat.le_of_ble_eq_true rfl)      -- the array as it stands now (the place must lie among its first values: Arv.pad with pad_rep lengthens them)
  have K18 : Keep h0 h18 [] := K17.wr W18 (Or.inr sz_b3)
  have N18 := Fr.snoc X18 N17 g_b3
  obtain ⟨cl_b3_88, Ar_b3, q_b3, S_b3, N_b3, H_b3, G_b3⟩ := V_b3_18      -- open the array's fact as it stands now (its cell, kind, length, elements)
  have hin88 : ¬ ((15 : Int32) < 0 ∨ cl_b3_88.slots.size ≤ ((15 : Int32)).toNatClampNeg) := inb_of S_b3 ⟨by decide, by decide⟩
  obtain ⟨T19, h19, X19, e19, W19, st19⟩ := stI X18 hx hZ e18 Ar_b3 (j := (15 : Int32)) hin88 (g := (mkF m 88 #[.val (.int p1), .val (.int p2), .unset, .unset, .unset] [(.int (101 : Int32)), (.int (15 : Int32)), (.ref b3), (.ref b3)])) rfl rfl (hb hby at_88)
  have V_b3_19 := Arv.set Ar_b3 q_b3 S_b3 N_b3 H_b3 G_b3 rfl W19 15 rfl (Nat.le_of_ble_eq_true rfl)      -- the array as it stands now (the place must lie among its first values: Arv.pad with pad_rep lengthens them)
  have K19 : Keep h0 h19 [] := K18.wr W19 (Or.inr sz_b3)
  have N19 := Fr.snoc X19 N18 g_b3
  obtain ⟨cl_b3_94, Ar_b3, q_b3, S_b3, N_b3, H_b3, G_b3⟩ := V_b3_19      -- open the array's fact as it stands now (its cell, kind, length, elements)
  have hin94 : ¬ ((16 : Int32) < 0 ∨ cl_b3_94.slots.size ≤ ((16 : Int32)).toNatClampNeg) := inb_of S_b3 ⟨by decide, by decide⟩
  obtain ⟨T20, h20, X20, e20, W20, st20⟩ := stI X19 hx hZ e19 Ar_b3 (j := (16 : Int32)) hin94 (g := (mkF m 94 #[.val (.int p1), .val (.int p2), .unset, .unset, .unset] [(.int (-11 : Int32)), (.int (16 : Int32)), (.ref b3), (.ref b3)])) rfl rfl (hb hby at_94)
  have V_b3_20 := Arv.set Ar_b3 q_b3 S_b3 N_b3 H_b3 G_b3 rfl W20 16 rfl (Nat.le_of_ble_eq_true rfl)      -- the array as it stands now (the place must lie among its first values: Arv.pad with pad_rep lengthens them)
  have K20 : Keep h0 h20 [] := K19.wr W20 (Or.inr sz_b3)
  have N20 := Fr.snoc X20 N19 g_b3
  have EK : Ext h0 h20 := ⟨K20.1, fun a c q => K20.2.1 a c q nin0⟩
  -- pc 140: com/example/ulmus/ulmus/core/wire/OpCode.of by its contract rm1
  obtain ⟨_, _, ⟨T21, L21, k21, n21⟩, -, X21, ⟨Lc21, hQ21, l21, y21, z21⟩, st21⟩ := Jvm.LawKit.callS X20 hx (y := (⟨"com/example/ulmus/ulmus/core/wire/OpCode", "of", "(I)Lcom/example/ulmus/ulmus/core/wire/OpCode;"⟩ : MethodName)) hown (mvT hZ (hw _ (List.mem_of_getElem? (i := 1) rfl))) (mvT hZ (hw _ (List.mem_of_getElem? (i := 2) rfl))) (mvT hZ (hw _ (List.mem_of_getElem? (i := 3) rfl))) (mvT hZ (hw _ (List.mem_of_getElem? (i := 4) rfl))) (by decide) (backOf (W := 0) (rm1 l Z a0 hw [] p1 aA cl w (.ref ww) h20 n0 (Nat.le_trans (Nat.le_trans (Nat.le_trans (Nat.le_trans (Nat.le_trans (Nat.le_trans (Nat.le_trans (Nat.le_trans (Nat.le_trans (Nat.le_trans (Nat.le_trans (Nat.le_trans (Nat.le_trans (Nat.le_trans (Nat.le_trans (Nat.le_trans (Nat.le_trans (Nat.le_trans Z0 E3.1) (Keep.of_wr W4).1) (Keep.of_wr W5).1) (Keep.of_wr W6).1) (Keep.of_wr W7).1) (Keep.of_wr W8).1) (Keep.of_wr W9).1) (Keep.of_wr W10).1) (Keep.of_wr W11).1) (Keep.of_wr W12).1) (Keep.of_wr W13).1) (Keep.of_wr W14).1) (Keep.of_wr W15).1) (Keep.of_wr W16).1) (Keep.of_wr W17).1) (Keep.of_wr W18).1) (Keep.of_wr W19).1) (Keep.of_wr W20).1) (OF.ext EK) HS) hZ (hw _ (List.mem_of_getElem? (i := 4) rfl)) (hw _ (List.mem_of_getElem? (i := 3) rfl)) (by decide) (by decide)) (g := (mkF m 140 #[.val (.int p1), .val (.int p2), .val (.ref b3), .val (.int (p2 &&& (31 : Int32))), .val (.int p1)] [(.int p1)])) rfl (by rw [hml]; rfl) (argsL := [(.int p1)]) (rest := []) (lenOf pd_0_0 rfl) rfl (by show 2 * 0 + _ ≤ _; exact Nat.le_of_eq rfl) (hb hby at_140) (fun _ _ => ⟨rfl, e20, (by decide : 1 + 0 ≤ _), (by decide : 17 + 0 ≤ _)⟩)
  dsimp only [Pt.U, Pt.locs, Pt.cells, Pt.slots] at X21 l21 y21 z21 st21 hQ21
  subst l21 y21 z21
  obtain ⟨rfl, N21q, eq21⟩ := hQ21
  have N21 := Fr.app N20 N21q
  -- pc 145: com/example/ulmus/ulmus/core/wire/OpCodeOfPinLaw.expected by its contract rm2
  obtain ⟨_, _, ⟨T22, L22, k22, n22⟩, -, X22, ⟨Lc22, hQ22, l22, y22, z22⟩, st22⟩ := Jvm.LawKit.callS X21 hx (y := (⟨"com/example/ulmus/ulmus/core/wire/OpCodeOfPinLaw", "expected", "(I)Lcom/example/ulmus/ulmus/core/wire/OpCode;"⟩ : MethodName)) hown (mvT hZ (hw _ (List.mem_of_getElem? (i := 13) rfl))) (mvT hZ (hw _ (List.mem_of_getElem? (i := 14) rfl))) (mvT hZ (hw _ (List.mem_of_getElem? (i := 15) rfl))) (mvT hZ (hw _ (List.mem_of_getElem? (i := 16) rfl))) (by decide) (backOf (W := 1) (rm2 l Z a0 hw [] p1 aA cl w (.ref ww) h20 n0 (Nat.le_trans (Nat.le_trans (Nat.le_trans (Nat.le_trans (Nat.le_trans (Nat.le_trans (Nat.le_trans (Nat.le_trans (Nat.le_trans (Nat.le_trans (Nat.le_trans (Nat.le_trans (Nat.le_trans (Nat.le_trans (Nat.le_trans (Nat.le_trans (Nat.le_trans (Nat.le_trans Z0 E3.1) (Keep.of_wr W4).1) (Keep.of_wr W5).1) (Keep.of_wr W6).1) (Keep.of_wr W7).1) (Keep.of_wr W8).1) (Keep.of_wr W9).1) (Keep.of_wr W10).1) (Keep.of_wr W11).1) (Keep.of_wr W12).1) (Keep.of_wr W13).1) (Keep.of_wr W14).1) (Keep.of_wr W15).1) (Keep.of_wr W16).1) (Keep.of_wr W17).1) (Keep.of_wr W18).1) (Keep.of_wr W19).1) (Keep.of_wr W20).1) (OF.ext EK) HS) hZ (hw _ (List.mem_of_getElem? (i := 16) rfl)) (hw _ (List.mem_of_getElem? (i := 15) rfl)) (by decide) (by decide)) (g := (mkF m 145 #[.val (.int p1), .val (.int p2), .val (.ref b3), .val (.int (p2 &&& (31 : Int32))), .val (.int p1)] [(.int p1), (.ref ww)])) rfl (by rw [hml]; rfl) (argsL := [(.int p1)]) (rest := [(.ref ww)]) (lenOf pd_0_0 rfl) rfl (by show 2 * 0 + _ ≤ _; exact Nat.le_of_eq rfl) (hb hby at_145) (fun _ _ => ⟨rfl, eq21, (by decide : 1 + 0 ≤ _), (by decide : 17 + 0 ≤ _)⟩)
  dsimp only [Pt.U, Pt.locs, Pt.cells, Pt.slots] at X22 l22 y22 z22 st22 hQ22
  subst l22 y22 z22
  obtain ⟨rfl, N22q, eq22⟩ := hQ22
  have N22 := Fr.app N21 N22q
  obtain ⟨fs, hr, hrun, hended, hW, hsame⟩ := X22.leave (v := some (.int (1 : Int32))) (fun h => by rw [Bd.returns] at h; cases h)
  refine ⟨_, _, pre0 _ ?_, hrun, hended, _, _, rfl, ?_, ⟨_, rfl⟩, hW, hsame.mono (by decide) (by decide)⟩
  · show Steps p.tables e below (s₁.setTop (mkF m 0 #[.val (.int p1), .val (.int p2), .unset, .unset, .unset] [])) _
    refine XS.bipush X0.here hx rfl (hb hby at_0) ?_
    show Steps p.tables e below (s₁.setTop (mkF m 2 #[.val (.int p1), .val (.int p2), .unset, .unset, .unset] [(.int (17 : Int32))])) _
    refine st3 _ ?_
    show Steps p.tables e below (T3.setTop (mkF m 4 #[.val (.int p1), .val (.int p2), .unset, .unset, .unset] [(.ref b3)])) _
    refine XS.dup X3.here hx rfl (hb hby at_4) rfl rfl ?_
    show Steps p.tables e below (T3.setTop (mkF m 5 #[.val (.int p1), .val (.int p2), .unset, .unset, .unset] [(.ref b3), (.ref b3)])) _
    refine XS.iconst X3.here hx rfl (hb hby at_5) ?_
    show Steps p.tables e below (T3.setTop (mkF m 6 #[.val (.int p1), .val (.int p2), .unset, .unset, .unset] [(.int (0 : Int32)), (.ref b3), (.ref b3)])) _
    refine XS.iconst X3.here hx rfl (hb hby at_6) ?_
    show Steps p.tables e below (T3.setTop (mkF m 7 #[.val (.int p1), .val (.int p2), .unset, .unset, .unset] [(.int (1 : Int32)), (.int (0 : Int32)), (.ref b3), (.ref b3)])) _
    refine st4 _ ?_
    show Steps p.tables e below (T4.setTop (mkF m 8 #[.val (.int p1), .val (.int p2), .unset, .unset, .unset] [(.ref b3)])) _
    refine XS.dup X4.here hx rfl (hb hby at_8) rfl rfl ?_
    show Steps p.tables e below (T4.setTop (mkF m 9 #[.val (.int p1), .val (.int p2), .unset, .unset, .unset] [(.ref b3), (.ref b3)])) _
    refine XS.iconst X4.here hx rfl (hb hby at_9) ?_
    show Steps p.tables e below (T4.setTop (mkF m 10 #[.val (.int p1), .val (.int p2), .unset, .unset, .unset] [(.int (1 : Int32)), (.ref b3), (.ref b3)])) _
    refine XS.iconst X4.here hx rfl (hb hby at_10) ?_
    show Steps p.tables e below (T4.setTop (mkF m 11 #[.val (.int p1), .val (.int p2), .unset, .unset, .unset] [(.int (2 : Int32)), (.int (1 : Int32)), (.ref b3), (.ref b3)])) _
    refine st5 _ ?_
    show Steps p.tables e below (T5.setTop (mkF m 12 #[.val (.int p1), .val (.int p2), .unset, .unset, .unset] [(.ref b3)])) _
    refine XS.dup X5.here hx rfl (hb hby at_12) rfl rfl ?_
    show Steps p.tables e below (T5.setTop (mkF m 13 #[.val (.int p1), .val (.int p2), .unset, .unset, .unset] [(.ref b3), (.ref b3)])) _
    refine XS.iconst X5.here hx rfl (hb hby at_13) ?_
    show Steps p.tables e below (T5.setTop (mkF m 14 #[.val (.int p1), .val (.int p2), .unset, .unset, .unset] [(.int (2 : Int32)), (.ref b3), (.ref b3)])) _
    refine XS.iconst X5.here hx rfl (hb hby at_14) ?_
    show Steps p.tables e below (T5.setTop (mkF m 15 #[.val (.int p1), .val (.int p2), .unset, .unset, .unset] [(.int (3 : Int32)), (.int (2 : Int32)), (.ref b3), (.ref b3)])) _
    refine st6 _ ?_
    show Steps p.tables e below (T6.setTop (mkF m 16 #[.val (.int p1), .val (.int p2), .unset, .unset, .unset] [(.ref b3)])) _
    refine XS.dup X6.here hx rfl (hb hby at_16) rfl rfl ?_
    show Steps p.tables e below (T6.setTop (mkF m 17 #[.val (.int p1), .val (.int p2), .unset, .unset, .unset] [(.ref b3), (.ref b3)])) _
    refine XS.iconst X6.here hx rfl (hb hby at_17) ?_
    show Steps p.tables e below (T6.setTop (mkF m 18 #[.val (.int p1), .val (.int p2), .unset, .unset, .unset] [(.int (3 : Int32)), (.ref b3), (.ref b3)])) _
    refine XS.iconst X6.here hx rfl (hb hby at_18) ?_
    show Steps p.tables e below (T6.setTop (mkF m 19 #[.val (.int p1), .val (.int p2), .unset, .unset, .unset] [(.int (4 : Int32)), (.int (3 : Int32)), (.ref b3), (.ref b3)])) _
    refine st7 _ ?_
    show Steps p.tables e below (T7.setTop (mkF m 20 #[.val (.int p1), .val (.int p2), .unset, .unset, .unset] [(.ref b3)])) _
    refine XS.dup X7.here hx rfl (hb hby at_20) rfl rfl ?_
    show Steps p.tables e below (T7.setTop (mkF m 21 #[.val (.int p1), .val (.int p2), .unset, .unset, .unset] [(.ref b3), (.ref b3)])) _
    refine XS.iconst X7.here hx rfl (hb hby at_21) ?_
    show Steps p.tables e below (T7.setTop (mkF m 22 #[.val (.int p1), .val (.int p2), .unset, .unset, .unset] [(.int (4 : Int32)), (.ref b3), (.ref b3)])) _
    refine XS.iconst X7.here hx rfl (hb hby at_22) ?_
    show Steps p.tables e below (T7.setTop (mkF m 23 #[.val (.int p1), .val (.int p2), .unset, .unset, .unset] [(.int (5 : Int32)), (.int (4 : Int32)), (.ref b3), (.ref b3)])) _
    refine st8 _ ?_
    show Steps p.tables e below (T8.setTop (mkF m 24 #[.val (.int p1), .val (.int p2), .unset, .unset, .unset] [(.ref b3)])) _
    refine XS.dup X8.here hx rfl (hb hby at_24) rfl rfl ?_
    show Steps p.tables e below (T8.setTop (mkF m 25 #[.val (.int p1), .val (.int p2), .unset, .unset, .unset] [(.ref b3), (.ref b3)])) _
    refine XS.iconst X8.here hx rfl (hb hby at_25) ?_
    show Steps p.tables e below (T8.setTop (mkF m 26 #[.val (.int p1), .val (.int p2), .unset, .unset, .unset] [(.int (5 : Int32)), (.ref b3), (.ref b3)])) _
    refine XS.bipush X8.here hx rfl (hb hby at_26) ?_
    show Steps p.tables e below (T8.setTop (mkF m 28 #[.val (.int p1), .val (.int p2), .unset, .unset, .unset] [(.int (6 : Int32)), (.int (5 : Int32)), (.ref b3), (.ref b3)])) _
    refine st9 _ ?_
    show Steps p.tables e below (T9.setTop (mkF m 29 #[.val (.int p1), .val (.int p2), .unset, .unset, .unset] [(.ref b3)])) _
    refine XS.dup X9.here hx rfl (hb hby at_29) rfl rfl ?_
    show Steps p.tables e below (T9.setTop (mkF m 30 #[.val (.int p1), .val (.int p2), .unset, .unset, .unset] [(.ref b3), (.ref b3)])) _
    refine XS.bipush X9.here hx rfl (hb hby at_30) ?_
    show Steps p.tables e below (T9.setTop (mkF m 32 #[.val (.int p1), .val (.int p2), .unset, .unset, .unset] [(.int (6 : Int32)), (.ref b3), (.ref b3)])) _
    refine XS.bipush X9.here hx rfl (hb hby at_32) ?_
    show Steps p.tables e below (T9.setTop (mkF m 34 #[.val (.int p1), .val (.int p2), .unset, .unset, .unset] [(.int (7 : Int32)), (.int (6 : Int32)), (.ref b3), (.ref b3)])) _
    refine st10 _ ?_
    show Steps p.tables e below (T10.setTop (mkF m 35 #[.val (.int p1), .val (.int p2), .unset, .unset, .unset] [(.ref b3)])) _
    refine XS.dup X10.here hx rfl (hb hby at_35) rfl rfl ?_
    show Steps p.tables e below (T10.setTop (mkF m 36 #[.val (.int p1), .val (.int p2), .unset, .unset, .unset] [(.ref b3), (.ref b3)])) _
    refine XS.bipush X10.here hx rfl (hb hby at_36) ?_
    show Steps p.tables e below (T10.setTop (mkF m 38 #[.val (.int p1), .val (.int p2), .unset, .unset, .unset] [(.int (7 : Int32)), (.ref b3), (.ref b3)])) _
    refine XS.bipush X10.here hx rfl (hb hby at_38) ?_
    show Steps p.tables e below (T10.setTop (mkF m 40 #[.val (.int p1), .val (.int p2), .unset, .unset, .unset] [(.int (8 : Int32)), (.int (7 : Int32)), (.ref b3), (.ref b3)])) _
    refine st11 _ ?_
    show Steps p.tables e below (T11.setTop (mkF m 41 #[.val (.int p1), .val (.int p2), .unset, .unset, .unset] [(.ref b3)])) _
    refine XS.dup X11.here hx rfl (hb hby at_41) rfl rfl ?_
    show Steps p.tables e below (T11.setTop (mkF m 42 #[.val (.int p1), .val (.int p2), .unset, .unset, .unset] [(.ref b3), (.ref b3)])) _
    refine XS.bipush X11.here hx rfl (hb hby at_42) ?_
    show Steps p.tables e below (T11.setTop (mkF m 44 #[.val (.int p1), .val (.int p2), .unset, .unset, .unset] [(.int (8 : Int32)), (.ref b3), (.ref b3)])) _
    refine XS.bipush X11.here hx rfl (hb hby at_44) ?_
    show Steps p.tables e below (T11.setTop (mkF m 46 #[.val (.int p1), .val (.int p2), .unset, .unset, .unset] [(.int (9 : Int32)), (.int (8 : Int32)), (.ref b3), (.ref b3)])) _
    refine st12 _ ?_
    show Steps p.tables e below (T12.setTop (mkF m 47 #[.val (.int p1), .val (.int p2), .unset, .unset, .unset] [(.ref b3)])) _
    refine XS.dup X12.here hx rfl (hb hby at_47) rfl rfl ?_
    show Steps p.tables e below (T12.setTop (mkF m 48 #[.val (.int p1), .val (.int p2), .unset, .unset, .unset] [(.ref b3), (.ref b3)])) _
    refine XS.bipush X12.here hx rfl (hb hby at_48) ?_
    show Steps p.tables e below (T12.setTop (mkF m 50 #[.val (.int p1), .val (.int p2), .unset, .unset, .unset] [(.int (9 : Int32)), (.ref b3), (.ref b3)])) _
    refine XS.bipush X12.here hx rfl (hb hby at_50) ?_
    show Steps p.tables e below (T12.setTop (mkF m 52 #[.val (.int p1), .val (.int p2), .unset, .unset, .unset] [(.int (11 : Int32)), (.int (9 : Int32)), (.ref b3), (.ref b3)])) _
    refine st13 _ ?_
    show Steps p.tables e below (T13.setTop (mkF m 53 #[.val (.int p1), .val (.int p2), .unset, .unset, .unset] [(.ref b3)])) _
    refine XS.dup X13.here hx rfl (hb hby at_53) rfl rfl ?_
    show Steps p.tables e below (T13.setTop (mkF m 54 #[.val (.int p1), .val (.int p2), .unset, .unset, .unset] [(.ref b3), (.ref b3)])) _
    refine XS.bipush X13.here hx rfl (hb hby at_54) ?_
    show Steps p.tables e below (T13.setTop (mkF m 56 #[.val (.int p1), .val (.int p2), .unset, .unset, .unset] [(.int (10 : Int32)), (.ref b3), (.ref b3)])) _
    refine XS.bipush X13.here hx rfl (hb hby at_56) ?_
    show Steps p.tables e below (T13.setTop (mkF m 58 #[.val (.int p1), .val (.int p2), .unset, .unset, .unset] [(.int (12 : Int32)), (.int (10 : Int32)), (.ref b3), (.ref b3)])) _
    refine st14 _ ?_
    show Steps p.tables e below (T14.setTop (mkF m 59 #[.val (.int p1), .val (.int p2), .unset, .unset, .unset] [(.ref b3)])) _
    refine XS.dup X14.here hx rfl (hb hby at_59) rfl rfl ?_
    show Steps p.tables e below (T14.setTop (mkF m 60 #[.val (.int p1), .val (.int p2), .unset, .unset, .unset] [(.ref b3), (.ref b3)])) _
    refine XS.bipush X14.here hx rfl (hb hby at_60) ?_
    show Steps p.tables e below (T14.setTop (mkF m 62 #[.val (.int p1), .val (.int p2), .unset, .unset, .unset] [(.int (11 : Int32)), (.ref b3), (.ref b3)])) _
    refine XS.bipush X14.here hx rfl (hb hby at_62) ?_
    show Steps p.tables e below (T14.setTop (mkF m 64 #[.val (.int p1), .val (.int p2), .unset, .unset, .unset] [(.int (13 : Int32)), (.int (11 : Int32)), (.ref b3), (.ref b3)])) _
    refine st15 _ ?_
    show Steps p.tables e below (T15.setTop (mkF m 65 #[.val (.int p1), .val (.int p2), .unset, .unset, .unset] [(.ref b3)])) _
    refine XS.dup X15.here hx rfl (hb hby at_65) rfl rfl ?_
    show Steps p.tables e below (T15.setTop (mkF m 66 #[.val (.int p1), .val (.int p2), .unset, .unset, .unset] [(.ref b3), (.ref b3)])) _
    refine XS.bipush X15.here hx rfl (hb hby at_66) ?_
    show Steps p.tables e below (T15.setTop (mkF m 68 #[.val (.int p1), .val (.int p2), .unset, .unset, .unset] [(.int (12 : Int32)), (.ref b3), (.ref b3)])) _
    refine XS.bipush X15.here hx rfl (hb hby at_68) ?_
    show Steps p.tables e below (T15.setTop (mkF m 70 #[.val (.int p1), .val (.int p2), .unset, .unset, .unset] [(.int (14 : Int32)), (.int (12 : Int32)), (.ref b3), (.ref b3)])) _
    refine st16 _ ?_
    show Steps p.tables e below (T16.setTop (mkF m 71 #[.val (.int p1), .val (.int p2), .unset, .unset, .unset] [(.ref b3)])) _
    refine XS.dup X16.here hx rfl (hb hby at_71) rfl rfl ?_
    show Steps p.tables e below (T16.setTop (mkF m 72 #[.val (.int p1), .val (.int p2), .unset, .unset, .unset] [(.ref b3), (.ref b3)])) _
    refine XS.bipush X16.here hx rfl (hb hby at_72) ?_
    show Steps p.tables e below (T16.setTop (mkF m 74 #[.val (.int p1), .val (.int p2), .unset, .unset, .unset] [(.int (13 : Int32)), (.ref b3), (.ref b3)])) _
    refine XS.bipush X16.here hx rfl (hb hby at_74) ?_
    show Steps p.tables e below (T16.setTop (mkF m 76 #[.val (.int p1), .val (.int p2), .unset, .unset, .unset] [(.int (15 : Int32)), (.int (13 : Int32)), (.ref b3), (.ref b3)])) _
    refine st17 _ ?_
    show Steps p.tables e below (T17.setTop (mkF m 77 #[.val (.int p1), .val (.int p2), .unset, .unset, .unset] [(.ref b3)])) _
    refine XS.dup X17.here hx rfl (hb hby at_77) rfl rfl ?_
    show Steps p.tables e below (T17.setTop (mkF m 78 #[.val (.int p1), .val (.int p2), .unset, .unset, .unset] [(.ref b3), (.ref b3)])) _
    refine XS.bipush X17.here hx rfl (hb hby at_78) ?_
    show Steps p.tables e below (T17.setTop (mkF m 80 #[.val (.int p1), .val (.int p2), .unset, .unset, .unset] [(.int (14 : Int32)), (.ref b3), (.ref b3)])) _
    refine XS.bipush X17.here hx rfl (hb hby at_80) ?_
    show Steps p.tables e below (T17.setTop (mkF m 82 #[.val (.int p1), .val (.int p2), .unset, .unset, .unset] [(.int (100 : Int32)), (.int (14 : Int32)), (.ref b3), (.ref b3)])) _
    refine st18 _ ?_
    show Steps p.tables e below (T18.setTop (mkF m 83 #[.val (.int p1), .val (.int p2), .unset, .unset, .unset] [(.ref b3)])) _
    refine XS.dup X18.here hx rfl (hb hby at_83) rfl rfl ?_
    show Steps p.tables e below (T18.setTop (mkF m 84 #[.val (.int p1), .val (.int p2), .unset, .unset, .unset] [(.ref b3), (.ref b3)])) _
    refine XS.bipush X18.here hx rfl (hb hby at_84) ?_
    show Steps p.tables e below (T18.setTop (mkF m 86 #[.val (.int p1), .val (.int p2), .unset, .unset, .unset] [(.int (15 : Int32)), (.ref b3), (.ref b3)])) _
    refine XS.bipush X18.here hx rfl (hb hby at_86) ?_
    show Steps p.tables e below (T18.setTop (mkF m 88 #[.val (.int p1), .val (.int p2), .unset, .unset, .unset] [(.int (101 : Int32)), (.int (15 : Int32)), (.ref b3), (.ref b3)])) _
    refine st19 _ ?_
    show Steps p.tables e below (T19.setTop (mkF m 89 #[.val (.int p1), .val (.int p2), .unset, .unset, .unset] [(.ref b3)])) _
    refine XS.dup X19.here hx rfl (hb hby at_89) rfl rfl ?_
    show Steps p.tables e below (T19.setTop (mkF m 90 #[.val (.int p1), .val (.int p2), .unset, .unset, .unset] [(.ref b3), (.ref b3)])) _
    refine XS.bipush X19.here hx rfl (hb hby at_90) ?_
    show Steps p.tables e below (T19.setTop (mkF m 92 #[.val (.int p1), .val (.int p2), .unset, .unset, .unset] [(.int (16 : Int32)), (.ref b3), (.ref b3)])) _
    refine XS.bipush X19.here hx rfl (hb hby at_92) ?_
    show Steps p.tables e below (T19.setTop (mkF m 94 #[.val (.int p1), .val (.int p2), .unset, .unset, .unset] [(.int (-11 : Int32)), (.int (16 : Int32)), (.ref b3), (.ref b3)])) _
    refine st20 _ ?_
    show Steps p.tables e below (T20.setTop (mkF m 95 #[.val (.int p1), .val (.int p2), .unset, .unset, .unset] [(.ref b3)])) _
    refine XS.astoreN X20.here hx rfl (hb hby at_95) rfl rfl (l' := #[.val (.int p1), .val (.int p2), .val (.ref b3), .unset, .unset]) rfl ?_
    show Steps p.tables e below (T20.setTop (mkF m 96 #[.val (.int p1), .val (.int p2), .val (.ref b3), .unset, .unset] [])) _
    refine XS.iloadN X20.here hx rfl (hb hby at_96) rfl ?_
    show Steps p.tables e below (T20.setTop (mkF m 97 #[.val (.int p1), .val (.int p2), .val (.ref b3), .unset, .unset] [(.int p2)])) _
    refine XS.bipush X20.here hx rfl (hb hby at_97) ?_
    show Steps p.tables e below (T20.setTop (mkF m 99 #[.val (.int p1), .val (.int p2), .val (.ref b3), .unset, .unset] [(.int (31 : Int32)), (.int p2)])) _
    refine XS.iand X20.here hx rfl (hb hby at_99) rfl ?_
    show Steps p.tables e below (T20.setTop (mkF m 100 #[.val (.int p1), .val (.int p2), .val (.ref b3), .unset, .unset] [(.int (p2 &&& (31 : Int32)))])) _
    refine XS.istoreN X20.here hx rfl (hb hby at_100) rfl (l' := #[.val (.int p1), .val (.int p2), .val (.ref b3), .val (.int (p2 &&& (31 : Int32))), .unset]) rfl ?_
    show Steps p.tables e below (T20.setTop (mkF m 101 #[.val (.int p1), .val (.int p2), .val (.ref b3), .val (.int (p2 &&& (31 : Int32))), .unset] [])) _
    refine XS.iloadN X20.here hx rfl (hb hby at_101) rfl ?_
    show Steps p.tables e below (T20.setTop (mkF m 102 #[.val (.int p1), .val (.int p2), .val (.ref b3), .val (.int (p2 &&& (31 : Int32))), .unset] [(.int (p2 &&& (31 : Int32)))])) _
    refine XS.bipush X20.here hx rfl (hb hby at_102) ?_
    show Steps p.tables e below (T20.setTop (mkF m 104 #[.val (.int p1), .val (.int p2), .val (.ref b3), .val (.int (p2 &&& (31 : Int32))), .unset] [(.int (17 : Int32)), (.int (p2 &&& (31 : Int32)))])) _
    refine XS.icmpYes X20.here hx rfl (pc0 := 104) (pc' := 115) rfl (hb hby at_104) rfl (flt hc104).2.1 (by decide) (by decide) ?_
    show Steps p.tables e below (T20.setTop (mkF m 115 #[.val (.int p1), .val (.int p2), .val (.ref b3), .val (.int (p2 &&& (31 : Int32))), .unset] [])) _
    refine XS.iloadN X20.here hx rfl (hb hby at_115) rfl ?_
    show Steps p.tables e below (T20.setTop (mkF m 116 #[.val (.int p1), .val (.int p2), .val (.ref b3), .val (.int (p2 &&& (31 : Int32))), .unset] [(.int (p2 &&& (31 : Int32)))])) _
    refine XS.bipush X20.here hx rfl (hb hby at_116) ?_
    show Steps p.tables e below (T20.setTop (mkF m 118 #[.val (.int p1), .val (.int p2), .val (.ref b3), .val (.int (p2 &&& (31 : Int32))), .unset] [(.int (24 : Int32)), (.int (p2 &&& (31 : Int32)))])) _
    refine XS.icmpYes X20.here hx rfl (pc0 := 118) (pc' := 135) rfl (hb hby at_118) rfl (flt hc118).2.1 (by decide) (by decide) ?_
    show Steps p.tables e below (T20.setTop (mkF m 135 #[.val (.int p1), .val (.int p2), .val (.ref b3), .val (.int (p2 &&& (31 : Int32))), .unset] [])) _
    refine XS.iloadN X20.here hx rfl (hb hby at_135) rfl ?_
    show Steps p.tables e below (T20.setTop (mkF m 136 #[.val (.int p1), .val (.int p2), .val (.ref b3), .val (.int (p2 &&& (31 : Int32))), .unset] [(.int p1)])) _
    refine XS.istore X20.here hx rfl (hb hby at_136) rfl (l' := #[.val (.int p1), .val (.int p2), .val (.ref b3), .val (.int (p2 &&& (31 : Int32))), .val (.int p1)]) rfl ?_
    show Steps p.tables e below (T20.setTop (mkF m 138 #[.val (.int p1), .val (.int p2), .val (.ref b3), .val (.int (p2 &&& (31 : Int32))), .val (.int p1)] [])) _
    refine XS.iload X20.here hx rfl (hb hby at_138) rfl ?_
    show Steps p.tables e below (T20.setTop (mkF m 140 #[.val (.int p1), .val (.int p2), .val (.ref b3), .val (.int (p2 &&& (31 : Int32))), .val (.int p1)] [(.int p1)])) _
    refine st21 _ ?_
    show Steps p.tables e below (T21.setTop (mkF m 143 #[.val (.int p1), .val (.int p2), .val (.ref b3), .val (.int (p2 &&& (31 : Int32))), .val (.int p1)] [(.ref ww)])) _
    refine XS.iload X21.here hx rfl (hb hby at_143) rfl ?_
    show Steps p.tables e below (T21.setTop (mkF m 145 #[.val (.int p1), .val (.int p2), .val (.ref b3), .val (.int (p2 &&& (31 : Int32))), .val (.int p1)] [(.int p1), (.ref ww)])) _
    refine st22 _ ?_
    show Steps p.tables e below (T22.setTop (mkF m 148 #[.val (.int p1), .val (.int p2), .val (.ref b3), .val (.int (p2 &&& (31 : Int32))), .val (.int p1)] [(.ref ww), (.ref ww)])) _
    refine Jvm.RoadKit.acmp (g := (mkF m 148 #[.val (.int p1), .val (.int p2), .val (.ref b3), .val (.int (p2 &&& (31 : Int32))), .val (.int p1)] [(.ref ww), (.ref ww)])) X22 hx rfl rfl rfl (pc0 := 148) (pc' := 151) (same := true) rfl (hb hby at_148) rfl (decide_eq_true rfl) (by decide) (by decide) ?_
    show Steps p.tables e below (T22.setTop (mkF m 151 #[.val (.int p1), .val (.int p2), .val (.ref b3), .val (.int (p2 &&& (31 : Int32))), .val (.int p1)] [])) _
    refine XS.iconst X22.here hx rfl (hb hby at_151) ?_
    show Steps p.tables e below (T22.setTop (mkF m 152 #[.val (.int p1), .val (.int p2), .val (.ref b3), .val (.int (p2 &&& (31 : Int32))), .val (.int p1)] [(.int (1 : Int32))])) _
    refine XS.goto X22.here hx rfl (pc0 := 152) (pc' := 156) rfl (hb hby at_152) (by decide) (by decide) ?_
    show Steps p.tables e below (T22.setTop (mkF m 156 #[.val (.int p1), .val (.int p2), .val (.ref b3), .val (.int (p2 &&& (31 : Int32))), .val (.int p1)] [(.int (1 : Int32))])) _
    exact retN X22 hx (t := .boolean) Bd.returns (by simp) (hb hby at_156) hr
  · show Q0 n0 _ T22.heap _
    rw [eq22]
    exact ⟨rfl, N22⟩

set_option maxRecDepth 65536 in
set_option maxHeartbeats 40000000 in
theorem rm0_21 (l : Launch) (Z : State) (a0 : Array Value) (hw : ∀ d ∈ tables_1, d.before a0 Z = true) (ws : List Jvm.Cond) (p1 : Int32) (p2 : Int32) (aA : Addr) (cl : Cell) (w : Nat → Addr) (h0 : Heap) (n0 : Nat) (Z0 : n0 ≤ h0.size) (OF : OpF Z h0 aA cl w) (HS : Spc w p1 .null) (hc104 : ¬ ((p2 &&& (31 : Int32)) < (17 : Int32))) (hc118 : ¬ ((p2 &&& (31 : Int32)) < (24 : Int32))) :
    MetFree l x (head1 (Jvm.Cond.code x code maxLocals ret :: ws) room_1) (fun a U => a = #[(.int p1), (.int p2)] ∧ Z.Warmed39 U.vm ∧ U.heap = h0) (fun _ _ _ _ _ => True) (fun _ U o U' => ∃ v L, o = .returned v ∧ Q0 n0 v U'.heap L ∧ FrameEnd U o U' L room_1.cells room_1.slots) := by
  refine MetFree.of_bodySF (plainFor_of_name pn_0) hisR ?_
  intro p e s m args below meth c s₁ Bd hml0 hP hK
  obtain ⟨rfl, hZ, hh⟩ := hP
  have hx := Bd.exec
  have hby := Bd.bytes
  have hml : c.maxLocals = 5 := hml0
  have hown : s.vm.findClass "com/example/ulmus/ulmus/core/wire/OpCodeOfPinLaw" = some m.cls := findClass_of_methodNamed Bd.named
  have hnm := (name_of_methodNamed Bd.named Bd.method).1
  have X0 : Stand p l e room_1 s m #[(.int p1), (.int p2)] below meth c s₁ [] 0 0 := Stand.of_body Bd
  have e0 : s₁.heap = h0 := by rw [← hh, Bd.state]; rfl
  have N0 := Fr.nil n0
  have pre0 : ∀ t, Steps p.tables e below (s₁.setTop (mkF m 0 #[.val (.int p1), .val (.int p2), .unset, .unset, .unset] [])) t → Steps p.tables e below (s₁.setTop (entryFrame m #[(.int p1), (.int p2)] maxLocals)) t := fun t k => castTop (ef_0 m p1 p2) k
  obtain ⟨T3, h3, k3, X3, e3, E3, A3, st3⟩ := newP X0 hx hZ (hw _ (List.mem_of_getElem? (i := 0) rfl)) e0 (g := (mkF m 2 #[.val (.int p1), .val (.int p2), .unset, .unset, .unset] [(.int (17 : Int32))])) rfl (hb hby at_2) rfl (by decide) (cap := 17) (by decide) (by decide) (by decide) (by decide)
  obtain ⟨b3, g3⟩ : ∃ z, z = h0.size := ⟨_, rfl⟩      -- the fresh array's address
  rw [← g3] at A3 st3
  have V_b3 : Arv Z h3 b3 k3 .int (17 : Int32) [(.int (0 : Int32)), (.int (0 : Int32)), (.int (0 : Int32)), (.int (0 : Int32)), (.int (0 : Int32)), (.int (0 : Int32)), (.int (0 : Int32)), (.int (0 : Int32)), (.int (0 : Int32)), (.int (0 : Int32)), (.int (0 : Int32)), (.int (0 : Int32)), (.int (0 : Int32)), (.int (0 : Int32)), (.int (0 : Int32)), (.int (0 : Int32)), (.int (0 : Int32))] (.int (0 : Int32)) := (Arv.new A3 (by decide)).pad (pad_rep [] (.int (0 : Int32)) 17)
  have g_b3 : n0 ≤ b3 := Nat.le_trans Z0 (Nat.le_of_eq g3.symm)
  have sz_b3 : h0.size ≤ b3 := (Nat.le_trans (Keep.refl h0 []).1 (Nat.le_of_eq g3.symm))
  have K3 : Keep h0 h3 [] := (Keep.refl h0 []).ext E3
  obtain ⟨cl_b3_7, Ar_b3, q_b3, S_b3, N_b3, H_b3, G_b3⟩ := V_b3      -- open the array's fact as it stands now (its cell, kind, length, elements)
  have hin7 : ¬ ((0 : Int32) < 0 ∨ cl_b3_7.slots.size ≤ ((0 : Int32)).toNatClampNeg) := inb_of S_b3 ⟨by decide, by decide⟩
  obtain ⟨T4, h4, X4, e4, W4, st4⟩ := stI X3 hx hZ e3 Ar_b3 (j := (0 : Int32)) hin7 (g := (mkF m 7 #[.val (.int p1), .val (.int p2), .unset, .unset, .unset] [(.int (1 : Int32)), (.int (0 : Int32)), (.ref b3), (.ref b3)])) rfl rfl (hb hby at_7)
  have V_b3_4 := Arv.set Ar_b3 q_b3 S_b3 N_b3 H_b3 G_b3 rfl W4 0 rfl (Nat.le_of_ble_eq_true rfl)      -- the array as it stands now (the place must lie among its first values: Arv.pad with pad_rep lengthens them)
  have K4 : Keep h0 h4 [] := K3.wr W4 (Or.inr sz_b3)
  have N4 := Fr.snoc X4 N0 g_b3
  obtain ⟨cl_b3_11, Ar_b3, q_b3, S_b3, N_b3, H_b3, G_b3⟩ := V_b3_4      -- open the array's fact as it stands now (its cell, kind, length, elements)
  have hin11 : ¬ ((1 : Int32) < 0 ∨ cl_b3_11.slots.size ≤ ((1 : Int32)).toNatClampNeg) := inb_of S_b3 ⟨by decide, by decide⟩
  obtain ⟨T5, h5, X5, e5, W5, st5⟩ := stI X4 hx hZ e4 Ar_b3 (j := (1 : Int32)) hin11 (g := (mkF m 11 #[.val (.int p1), .val (.int p2), .unset, .unset, .unset] [(.int (2 : Int32)), (.int (1 : Int32)), (.ref b3), (.ref b3)])) rfl rfl (hb hby at_11)
  have V_b3_5 := Arv.set Ar_b3 q_b3 S_b3 N_b3 H_b3 G_b3 rfl W5 1 rfl (Nat.le_of_ble_eq_true rfl)      -- the array as it stands now (the place must lie among its first values: Arv.pad with pad_rep lengthens them)
  have K5 : Keep h0 h5 [] := K4.wr W5 (Or.inr sz_b3)
  have N5 := Fr.snoc X5 N4 g_b3
  obtain ⟨cl_b3_15, Ar_b3, q_b3, S_b3, N_b3, H_b3, G_b3⟩ := V_b3_5      -- open the array's fact as it stands now (its cell, kind, length, elements)
  have hin15 : ¬ ((2 : Int32) < 0 ∨ cl_b3_15.slots.size ≤ ((2 : Int32)).toNatClampNeg) := inb_of S_b3 ⟨by decide, by decide⟩
  obtain ⟨T6, h6, X6, e6, W6, st6⟩ := stI X5 hx hZ e5 Ar_b3 (j := (2 : Int32)) hin15 (g := (mkF m 15 #[.val (.int p1), .val (.int p2), .unset, .unset, .unset] [(.int (3 : Int32)), (.int (2 : Int32)), (.ref b3), (.ref b3)])) rfl rfl (hb hby at_15)
  have V_b3_6 := Arv.set Ar_b3 q_b3 S_b3 N_b3 H_b3 G_b3 rfl W6 2 rfl (Nat.le_of_ble_eq_true rfl)      -- the array as it stands now (the place must lie among its first values: Arv.pad with pad_rep lengthens them)
  have K6 : Keep h0 h6 [] := K5.wr W6 (Or.inr sz_b3)
  have N6 := Fr.snoc X6 N5 g_b3
  obtain ⟨cl_b3_19, Ar_b3, q_b3, S_b3, N_b3, H_b3, G_b3⟩ := V_b3_6      -- open the array's fact as it stands now (its cell, kind, length, elements)
  have hin19 : ¬ ((3 : Int32) < 0 ∨ cl_b3_19.slots.size ≤ ((3 : Int32)).toNatClampNeg) := inb_of S_b3 ⟨by decide, by decide⟩
  obtain ⟨T7, h7, X7, e7, W7, st7⟩ := stI X6 hx hZ e6 Ar_b3 (j := (3 : Int32)) hin19 (g := (mkF m 19 #[.val (.int p1), .val (.int p2), .unset, .unset, .unset] [(.int (4 : Int32)), (.int (3 : Int32)), (.ref b3), (.ref b3)])) rfl rfl (hb hby at_19)
  have V_b3_7 := Arv.set Ar_b3 q_b3 S_b3 N_b3 H_b3 G_b3 rfl W7 3 rfl (Nat.le_of_ble_eq_true rfl)      -- the array as it stands now (the place must lie among its first values: Arv.pad with pad_rep lengthens them)
  have K7 : Keep h0 h7 [] := K6.wr W7 (Or.inr sz_b3)
  have N7 := Fr.snoc X7 N6 g_b3
  obtain ⟨cl_b3_23, Ar_b3, q_b3, S_b3, N_b3, H_b3, G_b3⟩ := V_b3_7      -- open the array's fact as it stands now (its cell, kind, length, elements)
  have hin23 : ¬ ((4 : Int32) < 0 ∨ cl_b3_23.slots.size ≤ ((4 : Int32)).toNatClampNeg) := inb_of S_b3 ⟨by decide, by decide⟩
  obtain ⟨T8, h8, X8, e8, W8, st8⟩ := stI X7 hx hZ e7 Ar_b3 (j := (4 : Int32)) hin23 (g := (mkF m 23 #[.val (.int p1), .val (.int p2), .unset, .unset, .unset] [(.int (5 : Int32)), (.int (4 : Int32)), (.ref b3), (.ref b3)])) rfl rfl (hb hby at_23)
  have V_b3_8 := Arv.set Ar_b3 q_b3 S_b3 N_b3 H_b3 G_b3 rfl W8 4 rfl (Nat.le_of_ble_eq_true rfl)      -- the array as it stands now (the place must lie among its first values: Arv.pad with pad_rep lengthens them)
  have K8 : Keep h0 h8 [] := K7.wr W8 (Or.inr sz_b3)
  have N8 := Fr.snoc X8 N7 g_b3
  obtain ⟨cl_b3_28, Ar_b3, q_b3, S_b3, N_b3, H_b3, G_b3⟩ := V_b3_8      -- open the array's fact as it stands now (its cell, kind, length, elements)
  have hin28 : ¬ ((5 : Int32) < 0 ∨ cl_b3_28.slots.size ≤ ((5 : Int32)).toNatClampNeg) := inb_of S_b3 ⟨by decide, by decide⟩
  obtain ⟨T9, h9, X9, e9, W9, st9⟩ := stI X8 hx hZ e8 Ar_b3 (j := (5 : Int32)) hin28 (g := (mkF m 28 #[.val (.int p1), .val (.int p2), .unset, .unset, .unset] [(.int (6 : Int32)), (.int (5 : Int32)), (.ref b3), (.ref b3)])) rfl rfl (hb hby at_28)
  have V_b3_9 := Arv.set Ar_b3 q_b3 S_b3 N_b3 H_b3 G_b3 rfl W9 5 rfl (Nat.le_of_ble_eq_true rfl)      -- the array as it stands now (the place must lie among its first values: Arv.pad with pad_rep lengthens them)
  have K9 : Keep h0 h9 [] := K8.wr W9 (Or.inr sz_b3)
  have N9 := Fr.snoc X9 N8 g_b3
  obtain ⟨cl_b3_34, Ar_b3, q_b3, S_b3, N_b3, H_b3, G_b3⟩ := V_b3_9      -- open the array's fact as it stands now (its cell, kind, length, elements)
  have hin34 : ¬ ((6 : Int32) < 0 ∨ cl_b3_34.slots.size ≤ ((6 : Int32)).toNatClampNeg) := inb_of S_b3 ⟨by decide, by decide⟩
  obtain ⟨T10, h10, X10, e10, W10, st10⟩ := stI X9 hx hZ e9 Ar_b3 (j := (6 : Int32)) hin34 (g := (mkF m 34 #[.val (.int p1), .val (.int p2), .unset, .unset, .unset] [(.int (7 : Int32)), (.int (6 : Int32)), (.ref b3), (.ref b3)])) rfl rfl (hb hby at_34)
  have V_b3_10 := Arv.set Ar_b3 q_b3 S_b3 N_b3 H_b3 G_b3 rfl W10 6 rfl (Nat.le_of_ble_eq_true rfl)      -- the array as it stands now (the place must lie among its first values: Arv.pad with pad_rep lengthens them)
  have K10 : Keep h0 h10 [] := K9.wr W10 (Or.inr sz_b3)
  have N10 := Fr.snoc X10 N9 g_b3
  obtain ⟨cl_b3_40, Ar_b3, q_b3, S_b3, N_b3, H_b3, G_b3⟩ := V_b3_10      -- open the array's fact as it stands now (its cell, kind, length, elements)
  have hin40 : ¬ ((7 : Int32) < 0 ∨ cl_b3_40.slots.size ≤ ((7 : Int32)).toNatClampNeg) := inb_of S_b3 ⟨by decide, by decide⟩
  obtain ⟨T11, h11, X11, e11, W11, st11⟩ := stI X10 hx hZ e10 Ar_b3 (j := (7 : Int32)) hin40 (g := (mkF m 40 #[.val (.int p1), .val (.int p2), .unset, .unset, .unset] [(.int (8 : Int32)), (.int (7 : Int32)), (.ref b3), (.ref b3)])) rfl rfl (hb hby at_40)
  have V_b3_11 := Arv.set Ar_b3 q_b3 S_b3 N_b3 H_b3 G_b3 rfl W11 7 rfl (Nat.le_of_ble_eq_true rfl)      -- the array as it stands now (the place must lie among its first values: Arv.pad with pad_rep lengthens them)
  have K11 : Keep h0 h11 [] := K10.wr W11 (Or.inr sz_b3)
  have N11 := Fr.snoc X11 N10 g_b3
  obtain ⟨cl_b3_46, Ar_b3, q_b3, S_b3, N_b3, H_b3, G_b3⟩ := V_b3_11      -- open the array's fact as it stands now (its cell, kind, length, elements)
  have hin46 : ¬ ((8 : Int32) < 0 ∨ cl_b3_46.slots.size ≤ ((8 : Int32)).toNatClampNeg) := inb_of S_b3 ⟨by decide, by decide⟩
  obtain ⟨T12, h12, X12, e12, W12, st12⟩ := stI X11 hx hZ e11 Ar_b3 (j := (8 : Int32)) hin46 (g := (mkF m 46 #[.val (.int p1), .val (.int p2), .unset, .unset, .unset] [(.int (9 : Int32)), (.int (8 : Int32)), (.ref b3), (.ref b3)])) rfl rfl (hb hby at_46)
  have V_b3_12 := Arv.set Ar_b3 q_b3 S_b3 N_b3 H_b3 G_b3 rfl W12 8 rfl (Nat.le_of_ble_eq_true rfl)      -- the array as it stands now (the place must lie among its first values: Arv.pad with pad_rep lengthens them)
  have K12 : Keep h0 h12 [] := K11.wr W12 (Or.inr sz_b3)
  have N12 := Fr.snoc X12 N11 g_b3
  obtain ⟨cl_b3_52, Ar_b3, q_b3, S_b3, N_b3, H_b3, G_b3⟩ := V_b3_12      -- open the array's fact as it stands now (its cell, kind, length, elements)
  have hin52 : ¬ ((9 : Int32) < 0 ∨ cl_b3_52.slots.size ≤ ((9 : Int32)).toNatClampNeg) := inb_of S_b3 ⟨by decide, by decide⟩
  obtain ⟨T13, h13, X13, e13, W13, st13⟩ := stI X12 hx hZ e12 Ar_b3 (j := (9 : Int32)) hin52 (g := (mkF m 52 #[.val (.int p1), .val (.int p2), .unset, .unset, .unset] [(.int (11 : Int32)), (.int (9 : Int32)), (.ref b3), (.ref b3)])) rfl rfl (hb hby at_52)
  have V_b3_13 := Arv.set Ar_b3 q_b3 S_b3 N_b3 H_b3 G_b3 rfl W13 9 rfl (Nat.le_of_ble_eq_true rfl)      -- the array as it stands now (the place must lie among its first values: Arv.pad with pad_rep lengthens them)
  have K13 : Keep h0 h13 [] := K12.wr W13 (Or.inr sz_b3)
  have N13 := Fr.snoc X13 N12 g_b3
  obtain ⟨cl_b3_58, Ar_b3, q_b3, S_b3, N_b3, H_b3, G_b3⟩ := V_b3_13      -- open the array's fact as it stands now (its cell, kind, length, elements)
  have hin58 : ¬ ((10 : Int32) < 0 ∨ cl_b3_58.slots.size ≤ ((10 : Int32)).toNatClampNeg) := inb_of S_b3 ⟨by decide, by decide⟩
  obtain ⟨T14, h14, X14, e14, W14, st14⟩ := stI X13 hx hZ e13 Ar_b3 (j := (10 : Int32)) hin58 (g := (mkF m 58 #[.val (.int p1), .val (.int p2), .unset, .unset, .unset] [(.int (12 : Int32)), (.int (10 : Int32)), (.ref b3), (.ref b3)])) rfl rfl (hb hby at_58)
  have V_b3_14 := Arv.set Ar_b3 q_b3 S_b3 N_b3 H_b3 G_b3 rfl W14 10 rfl (Nat.le_of_ble_eq_true rfl)      -- the array as it stands now (the place must lie among its first values: Arv.pad with pad_rep lengthens them)
  have K14 : Keep h0 h14 [] := K13.wr W14 (Or.inr sz_b3)
  have N14 := Fr.snoc X14 N13 g_b3
  obtain ⟨cl_b3_64, Ar_b3, q_b3, S_b3, N_b3, H_b3, G_b3⟩ := V_b3_14      -- open the array's fact as it stands now (its cell, kind, length, elements)
  have hin64 : ¬ ((11 : Int32) < 0 ∨ cl_b3_64.slots.size ≤ ((11 : Int32)).toNatClampNeg) := inb_of S_b3 ⟨by decide, by decide⟩
  obtain ⟨T15, h15, X15, e15, W15, st15⟩ := stI X14 hx hZ e14 Ar_b3 (j := (11 : Int32)) hin64 (g := (mkF m 64 #[.val (.int p1), .val (.int p2), .unset, .unset, .unset] [(.int (13 : Int32)), (.int (11 : Int32)), (.ref b3), (.ref b3)])) rfl rfl (hb hby at_64)
  have V_b3_15 := Arv.set Ar_b3 q_b3 S_b3 N_b3 H_b3 G_b3 rfl W15 11 rfl (Nat.le_of_ble_eq_true rfl)      -- the array as it stands now (the place must lie among its first values: Arv.pad with pad_rep lengthens them)
  have K15 : Keep h0 h15 [] := K14.wr W15 (Or.inr sz_b3)
  have N15 := Fr.snoc X15 N14 g_b3
  obtain ⟨cl_b3_70, Ar_b3, q_b3, S_b3, N_b3, H_b3, G_b3⟩ := V_b3_15      -- open the array's fact as it stands now (its cell, kind, length, elements)
  have hin70 : ¬ ((12 : Int32) < 0 ∨ cl_b3_70.slots.size ≤ ((12 : Int32)).toNatClampNeg) := inb_of S_b3 ⟨by decide, by decide⟩
  obtain ⟨T16, h16, X16, e16, W16, st16⟩ := stI X15 hx hZ e15 Ar_b3 (j := (12 : Int32)) hin70 (g := (mkF m 70 #[.val (.int p1), .val (.int p2), .unset, .unset, .unset] [(.int (14 : Int32)), (.int (12 : Int32)), (.ref b3), (.ref b3)])) rfl rfl (hb hby at_70)
  have V_b3_16 := Arv.set Ar_b3 q_b3 S_b3 N_b3 H_b3 G_b3 rfl W16 12 rfl (Nat.le_of_ble_eq_true rfl)      -- the array as it stands now (the place must lie among its first values: Arv.pad with pad_rep lengthens them)
  have K16 : Keep h0 h16 [] := K15.wr W16 (Or.inr sz_b3)
  have N16 := Fr.snoc X16 N15 g_b3
  obtain ⟨cl_b3_76, Ar_b3, q_b3, S_b3, N_b3, H_b3, G_b3⟩ := V_b3_16      -- open the array's fact as it stands now (its cell, kind, length, elements)
  have hin76 : ¬ ((13 : Int32) < 0 ∨ cl_b3_76.slots.size ≤ ((13 : Int32)).toNatClampNeg) := inb_of S_b3 ⟨by decide, by decide⟩
  obtain ⟨T17, h17, X17, e17, W17, st17⟩ := stI X16 hx hZ e16 Ar_b3 (j := (13 : Int32)) hin76 (g := (mkF m 76 #[.val (.int p1), .val (.int p2), .unset, .unset, .unset] [(.int (15 : Int32)), (.int (13 : Int32)), (.ref b3), (.ref b3)])) rfl rfl (hb hby at_76)
  have V_b3_17 := Arv.set Ar_b3 q_b3 S_b3 N_b3 H_b3 G_b3 rfl W17 13 rfl (Nat.le_of_ble_eq_true rfl)      -- the array as it stands now (the place must lie among its first values: Arv.pad with pad_rep lengthens them)
  have K17 : Keep h0 h17 [] := K16.wr W17 (Or.inr sz_b3)
  have N17 := Fr.snoc X17 N16 g_b3
  obtain ⟨cl_b3_82, Ar_b3, q_b3, S_b3, N_b3, H_b3, G_b3⟩ := V_b3_17      -- open the array's fact as it stands now (its cell, kind, length, elements)
  have hin82 : ¬ ((14 : Int32) < 0 ∨ cl_b3_82.slots.size ≤ ((14 : Int32)).toNatClampNeg) := inb_of S_b3 ⟨by decide, by decide⟩
  obtain ⟨T18, h18, X18, e18, W18, st18⟩ := stI X17 hx hZ e17 Ar_b3 (j := (14 : Int32)) hin82 (g := (mkF m 82 #[.val (.int p1), .val (.int p2), .unset, .unset, .unset] [(.int (100 : Int32)), (.int (14 : Int32)), (.ref b3), (.ref b3)])) rfl rfl (hb hby at_82)
  have V_b3_18 := Arv.set Ar_b3 q_b3 S_b3 N_b3 H_b3 G_b3 rfl W18 14 rfl (Nat.le_of_ble_eq_true rfl)      -- the array as it stands now (the place must lie among its first values: Arv.pad with pad_rep lengthens them)
  have K18 : Keep h0 h18 [] := K17.wr W18 (Or.inr sz_b3)
  have N18 := Fr.snoc X18 N17 g_b3
  obtain ⟨cl_b3_88, Ar_b3, q_b3, S_b3, N_b3, H_b3, G_b3⟩ := V_b3_18      -- open the array's fact as it stands now (its cell, kind, length, elements)
  have hin88 : ¬ ((15 : Int32) < 0 ∨ cl_b3_88.slots.size ≤ ((15 : Int32)).toNatClampNeg) := inb_of S_b3 ⟨by decide, by decide⟩
  obtain ⟨T19, h19, X19, e19, W19, st19⟩ := stI X18 hx hZ e18 Ar_b3 (j := (15 : Int32)) hin88 (g := (mkF m 88 #[.val (.int p1), .val (.int p2), .unset, .unset, .unset] [(.int (101 : Int32)), (.int (15 : Int32)), (.ref b3), (.ref b3)])) rfl rfl (hb hby at_88)
  have V_b3_19 := Arv.set Ar_b3 q_b3 S_b3 N_b3 H_b3 G_b3 rfl W19 15 rfl (Nat.le_of_ble_eq_true rfl)      -- the array as it stands now (the place must lie among its first values: Arv.pad with pad_rep lengthens them)
  have K19 : Keep h0 h19 [] := K18.wr W19 (Or.inr sz_b3)
  have N19 := Fr.snoc X19 N18 g_b3
  obtain ⟨cl_b3_94, Ar_b3, q_b3, S_b3, N_b3, H_b3, G_b3⟩ := V_b3_19      -- open the array's fact as it stands now (its cell, kind, length, elements)
  have hin94 : ¬ ((16 : Int32) < 0 ∨ cl_b3_94.slots.size ≤ ((16 : Int32)).toNatClampNeg) := inb_of S_b3 ⟨by decide, by decide⟩
  obtain ⟨T20, h20, X20, e20, W20, st20⟩ := stI X19 hx hZ e19 Ar_b3 (j := (16 : Int32)) hin94 (g := (mkF m 94 #[.val (.int p1), .val (.int p2), .unset, .unset, .unset] [(.int (-11 : Int32)), (.int (16 : Int32)), (.ref b3), (.ref b3)])) rfl rfl (hb hby at_94)
  have V_b3_20 := Arv.set Ar_b3 q_b3 S_b3 N_b3 H_b3 G_b3 rfl W20 16 rfl (Nat.le_of_ble_eq_true rfl)      -- the array as it stands now (the place must lie among its first values: Arv.pad with pad_rep lengthens them)
  have K20 : Keep h0 h20 [] := K19.wr W20 (Or.inr sz_b3)
  have N20 := Fr.snoc X20 N19 g_b3
  have EK : Ext h0 h20 := ⟨K20.1, fun a c q => K20.2.1 a c q nin0⟩
  -- pc 140: com/example/ulmus/ulmus/core/wire/OpCode.of by its contract rm1
  obtain ⟨_, _, ⟨T21, L21, k21, n21⟩, -, X21, ⟨Lc21, hQ21, l21, y21, z21⟩, st21⟩ := Jvm.LawKit.callS X20 hx (y := (⟨"com/example/ulmus/ulmus/core/wire/OpCode", "of", "(I)Lcom/example/ulmus/ulmus/core/wire/OpCode;"⟩ : MethodName)) hown (mvT hZ (hw _ (List.mem_of_getElem? (i := 1) rfl))) (mvT hZ (hw _ (List.mem_of_getElem? (i := 2) rfl))) (mvT hZ (hw _ (List.mem_of_getElem? (i := 3) rfl))) (mvT hZ (hw _ (List.mem_of_getElem? (i := 4) rfl))) (by decide) (backOf (W := 0) (rm1 l Z a0 hw [] p1 aA cl w .null h20 n0 (Nat.le_trans (Nat.le_trans (Nat.le_trans (Nat.le_trans (Nat.le_trans (Nat.le_trans (Nat.le_trans (Nat.le_trans (Nat.le_trans (Nat.le_trans (Nat.le_trans (Nat.le_trans (Nat.le_trans (Nat.le_trans (Nat.le_trans (Nat.le_trans (Nat.le_trans (Nat.le_trans Z0 E3.1) (Keep.of_wr W4).1) (Keep.of_wr W5).1) (Keep.of_wr W6).1) (Keep.of_wr W7).1) (Keep.of_wr W8).1) (Keep.of_wr W9).1) (Keep.of_wr W10).1) (Keep.of_wr W11).1) (Keep.of_wr W12).1) (Keep.of_wr W13).1) (Keep.of_wr W14).1) (Keep.of_wr W15).1) (Keep.of_wr W16).1) (Keep.of_wr W17).1) (Keep.of_wr W18).1) (Keep.of_wr W19).1) (Keep.of_wr W20).1) (OF.ext EK) HS) hZ (hw _ (List.mem_of_getElem? (i := 4) rfl)) (hw _ (List.mem_of_getElem? (i := 3) rfl)) (by decide) (by decide)) (g := (mkF m 140 #[.val (.int p1), .val (.int p2), .val (.ref b3), .val (.int (p2 &&& (31 : Int32))), .val (.int p1)] [(.int p1)])) rfl (by rw [hml]; rfl) (argsL := [(.int p1)]) (rest := []) (lenOf pd_0_0 rfl) rfl (by show 2 * 0 + _ ≤ _; exact Nat.le_of_eq rfl) (hb hby at_140) (fun _ _ => ⟨rfl, e20, (by decide : 1 + 0 ≤ _), (by decide : 17 + 0 ≤ _)⟩)
  dsimp only [Pt.U, Pt.locs, Pt.cells, Pt.slots] at X21 l21 y21 z21 st21 hQ21
  subst l21 y21 z21
  obtain ⟨rfl, N21q, eq21⟩ := hQ21
  have N21 := Fr.app N20 N21q
  -- pc 145: com/example/ulmus/ulmus/core/wire/OpCodeOfPinLaw.expected by its contract rm2
  obtain ⟨_, _, ⟨T22, L22, k22, n22⟩, -, X22, ⟨Lc22, hQ22, l22, y22, z22⟩, st22⟩ := Jvm.LawKit.callS X21 hx (y := (⟨"com/example/ulmus/ulmus/core/wire/OpCodeOfPinLaw", "expected", "(I)Lcom/example/ulmus/ulmus/core/wire/OpCode;"⟩ : MethodName)) hown (mvT hZ (hw _ (List.mem_of_getElem? (i := 13) rfl))) (mvT hZ (hw _ (List.mem_of_getElem? (i := 14) rfl))) (mvT hZ (hw _ (List.mem_of_getElem? (i := 15) rfl))) (mvT hZ (hw _ (List.mem_of_getElem? (i := 16) rfl))) (by decide) (backOf (W := 1) (rm2 l Z a0 hw [] p1 aA cl w .null h20 n0 (Nat.le_trans (Nat.le_trans (Nat.le_trans (Nat.le_trans (Nat.le_trans (Nat.le_trans (Nat.le_trans (Nat.le_trans (Nat.le_trans (Nat.le_trans (Nat.le_trans (Nat.le_trans (Nat.le_trans (Nat.le_trans (Nat.le_trans (Nat.le_trans (Nat.le_trans (Nat.le_trans Z0 E3.1) (Keep.of_wr W4).1) (Keep.of_wr W5).1) (Keep.of_wr W6).1) (Keep.of_wr W7).1) (Keep.of_wr W8).1) (Keep.of_wr W9).1) (Keep.of_wr W10).1) (Keep.of_wr W11).1) (Keep.of_wr W12).1) (Keep.of_wr W13).1) (Keep.of_wr W14).1) (Keep.of_wr W15).1) (Keep.of_wr W16).1) (Keep.of_wr W17).1) (Keep.of_wr W18).1) (Keep.of_wr W19).1) (Keep.of_wr W20).1) (OF.ext EK) HS) hZ (hw _ (List.mem_of_getElem? (i := 16) rfl)) (hw _ (List.mem_of_getElem? (i := 15) rfl)) (by decide) (by decide)) (g := (mkF m 145 #[.val (.int p1), .val (.int p2), .val (.ref b3), .val (.int (p2 &&& (31 : Int32))), .val (.int p1)] [(.int p1), .null])) rfl (by rw [hml]; rfl) (argsL := [(.int p1)]) (rest := [.null]) (lenOf pd_0_0 rfl) rfl (by show 2 * 0 + _ ≤ _; exact Nat.le_of_eq rfl) (hb hby at_145) (fun _ _ => ⟨rfl, eq21, (by decide : 1 + 0 ≤ _), (by decide : 17 + 0 ≤ _)⟩)
  dsimp only [Pt.U, Pt.locs, Pt.cells, Pt.slots] at X22 l22 y22 z22 st22 hQ22
  subst l22 y22 z22
  obtain ⟨rfl, N22q, eq22⟩ := hQ22
  have N22 := Fr.app N21 N22q
  obtain ⟨fs, hr, hrun, hended, hW, hsame⟩ := X22.leave (v := some (.int (1 : Int32))) (fun h => by rw [Bd.returns] at h; cases h)
  refine ⟨_, _, pre0 _ ?_, hrun, hended, _, _, rfl, ?_, ⟨_, rfl⟩, hW, hsame.mono (by decide) (by decide)⟩
  · show Steps p.tables e below (s₁.setTop (mkF m 0 #[.val (.int p1), .val (.int p2), .unset, .unset, .unset] [])) _
    refine XS.bipush X0.here hx rfl (hb hby at_0) ?_
    show Steps p.tables e below (s₁.setTop (mkF m 2 #[.val (.int p1), .val (.int p2), .unset, .unset, .unset] [(.int (17 : Int32))])) _
    refine st3 _ ?_
    show Steps p.tables e below (T3.setTop (mkF m 4 #[.val (.int p1), .val (.int p2), .unset, .unset, .unset] [(.ref b3)])) _
    refine XS.dup X3.here hx rfl (hb hby at_4) rfl rfl ?_
    show Steps p.tables e below (T3.setTop (mkF m 5 #[.val (.int p1), .val (.int p2), .unset, .unset, .unset] [(.ref b3), (.ref b3)])) _
    refine XS.iconst X3.here hx rfl (hb hby at_5) ?_
    show Steps p.tables e below (T3.setTop (mkF m 6 #[.val (.int p1), .val (.int p2), .unset, .unset, .unset] [(.int (0 : Int32)), (.ref b3), (.ref b3)])) _
    refine XS.iconst X3.here hx rfl (hb hby at_6) ?_
    show Steps p.tables e below (T3.setTop (mkF m 7 #[.val (.int p1), .val (.int p2), .unset, .unset, .unset] [(.int (1 : Int32)), (.int (0 : Int32)), (.ref b3), (.ref b3)])) _
    refine st4 _ ?_
    show Steps p.tables e below (T4.setTop (mkF m 8 #[.val (.int p1), .val (.int p2), .unset, .unset, .unset] [(.ref b3)])) _
    refine XS.dup X4.here hx rfl (hb hby at_8) rfl rfl ?_
    show Steps p.tables e below (T4.setTop (mkF m 9 #[.val (.int p1), .val (.int p2), .unset, .unset, .unset] [(.ref b3), (.ref b3)])) _
    refine XS.iconst X4.here hx rfl (hb hby at_9) ?_
    show Steps p.tables e below (T4.setTop (mkF m 10 #[.val (.int p1), .val (.int p2), .unset, .unset, .unset] [(.int (1 : Int32)), (.ref b3), (.ref b3)])) _
    refine XS.iconst X4.here hx rfl (hb hby at_10) ?_
    show Steps p.tables e below (T4.setTop (mkF m 11 #[.val (.int p1), .val (.int p2), .unset, .unset, .unset] [(.int (2 : Int32)), (.int (1 : Int32)), (.ref b3), (.ref b3)])) _
    refine st5 _ ?_
    show Steps p.tables e below (T5.setTop (mkF m 12 #[.val (.int p1), .val (.int p2), .unset, .unset, .unset] [(.ref b3)])) _
    refine XS.dup X5.here hx rfl (hb hby at_12) rfl rfl ?_
    show Steps p.tables e below (T5.setTop (mkF m 13 #[.val (.int p1), .val (.int p2), .unset, .unset, .unset] [(.ref b3), (.ref b3)])) _
    refine XS.iconst X5.here hx rfl (hb hby at_13) ?_
    show Steps p.tables e below (T5.setTop (mkF m 14 #[.val (.int p1), .val (.int p2), .unset, .unset, .unset] [(.int (2 : Int32)), (.ref b3), (.ref b3)])) _
    refine XS.iconst X5.here hx rfl (hb hby at_14) ?_
    show Steps p.tables e below (T5.setTop (mkF m 15 #[.val (.int p1), .val (.int p2), .unset, .unset, .unset] [(.int (3 : Int32)), (.int (2 : Int32)), (.ref b3), (.ref b3)])) _
    refine st6 _ ?_
    show Steps p.tables e below (T6.setTop (mkF m 16 #[.val (.int p1), .val (.int p2), .unset, .unset, .unset] [(.ref b3)])) _
    refine XS.dup X6.here hx rfl (hb hby at_16) rfl rfl ?_
    show Steps p.tables e below (T6.setTop (mkF m 17 #[.val (.int p1), .val (.int p2), .unset, .unset, .unset] [(.ref b3), (.ref b3)])) _
    refine XS.iconst X6.here hx rfl (hb hby at_17) ?_
    show Steps p.tables e below (T6.setTop (mkF m 18 #[.val (.int p1), .val (.int p2), .unset, .unset, .unset] [(.int (3 : Int32)), (.ref b3), (.ref b3)])) _
    refine XS.iconst X6.here hx rfl (hb hby at_18) ?_
    show Steps p.tables e below (T6.setTop (mkF m 19 #[.val (.int p1), .val (.int p2), .unset, .unset, .unset] [(.int (4 : Int32)), (.int (3 : Int32)), (.ref b3), (.ref b3)])) _
    refine st7 _ ?_
    show Steps p.tables e below (T7.setTop (mkF m 20 #[.val (.int p1), .val (.int p2), .unset, .unset, .unset] [(.ref b3)])) _
    refine XS.dup X7.here hx rfl (hb hby at_20) rfl rfl ?_
    show Steps p.tables e below (T7.setTop (mkF m 21 #[.val (.int p1), .val (.int p2), .unset, .unset, .unset] [(.ref b3), (.ref b3)])) _
    refine XS.iconst X7.here hx rfl (hb hby at_21) ?_
    show Steps p.tables e below (T7.setTop (mkF m 22 #[.val (.int p1), .val (.int p2), .unset, .unset, .unset] [(.int (4 : Int32)), (.ref b3), (.ref b3)])) _
    refine XS.iconst X7.here hx rfl (hb hby at_22) ?_
    show Steps p.tables e below (T7.setTop (mkF m 23 #[.val (.int p1), .val (.int p2), .unset, .unset, .unset] [(.int (5 : Int32)), (.int (4 : Int32)), (.ref b3), (.ref b3)])) _
    refine st8 _ ?_
    show Steps p.tables e below (T8.setTop (mkF m 24 #[.val (.int p1), .val (.int p2), .unset, .unset, .unset] [(.ref b3)])) _
    refine XS.dup X8.here hx rfl (hb hby at_24) rfl rfl ?_
    show Steps p.tables e below (T8.setTop (mkF m 25 #[.val (.int p1), .val (.int p2), .unset, .unset, .unset] [(.ref b3), (.ref b3)])) _
    refine XS.iconst X8.here hx rfl (hb hby at_25) ?_
    show Steps p.tables e below (T8.setTop (mkF m 26 #[.val (.int p1), .val (.int p2), .unset, .unset, .unset] [(.int (5 : Int32)), (.ref b3), (.ref b3)])) _
    refine XS.bipush X8.here hx rfl (hb hby at_26) ?_
    show Steps p.tables e below (T8.setTop (mkF m 28 #[.val (.int p1), .val (.int p2), .unset, .unset, .unset] [(.int (6 : Int32)), (.int (5 : Int32)), (.ref b3), (.ref b3)])) _
    refine st9 _ ?_
    show Steps p.tables e below (T9.setTop (mkF m 29 #[.val (.int p1), .val (.int p2), .unset, .unset, .unset] [(.ref b3)])) _
    refine XS.dup X9.here hx rfl (hb hby at_29) rfl rfl ?_
    show Steps p.tables e below (T9.setTop (mkF m 30 #[.val (.int p1), .val (.int p2), .unset, .unset, .unset] [(.ref b3), (.ref b3)])) _
    refine XS.bipush X9.here hx rfl (hb hby at_30) ?_
    show Steps p.tables e below (T9.setTop (mkF m 32 #[.val (.int p1), .val (.int p2), .unset, .unset, .unset] [(.int (6 : Int32)), (.ref b3), (.ref b3)])) _
    refine XS.bipush X9.here hx rfl (hb hby at_32) ?_
    show Steps p.tables e below (T9.setTop (mkF m 34 #[.val (.int p1), .val (.int p2), .unset, .unset, .unset] [(.int (7 : Int32)), (.int (6 : Int32)), (.ref b3), (.ref b3)])) _
    refine st10 _ ?_
    show Steps p.tables e below (T10.setTop (mkF m 35 #[.val (.int p1), .val (.int p2), .unset, .unset, .unset] [(.ref b3)])) _
    refine XS.dup X10.here hx rfl (hb hby at_35) rfl rfl ?_
    show Steps p.tables e below (T10.setTop (mkF m 36 #[.val (.int p1), .val (.int p2), .unset, .unset, .unset] [(.ref b3), (.ref b3)])) _
    refine XS.bipush X10.here hx rfl (hb hby at_36) ?_
    show Steps p.tables e below (T10.setTop (mkF m 38 #[.val (.int p1), .val (.int p2), .unset, .unset, .unset] [(.int (7 : Int32)), (.ref b3), (.ref b3)])) _
    refine XS.bipush X10.here hx rfl (hb hby at_38) ?_
    show Steps p.tables e below (T10.setTop (mkF m 40 #[.val (.int p1), .val (.int p2), .unset, .unset, .unset] [(.int (8 : Int32)), (.int (7 : Int32)), (.ref b3), (.ref b3)])) _
    refine st11 _ ?_
    show Steps p.tables e below (T11.setTop (mkF m 41 #[.val (.int p1), .val (.int p2), .unset, .unset, .unset] [(.ref b3)])) _
    refine XS.dup X11.here hx rfl (hb hby at_41) rfl rfl ?_
    show Steps p.tables e below (T11.setTop (mkF m 42 #[.val (.int p1), .val (.int p2), .unset, .unset, .unset] [(.ref b3), (.ref b3)])) _
    refine XS.bipush X11.here hx rfl (hb hby at_42) ?_
    show Steps p.tables e below (T11.setTop (mkF m 44 #[.val (.int p1), .val (.int p2), .unset, .unset, .unset] [(.int (8 : Int32)), (.ref b3), (.ref b3)])) _
    refine XS.bipush X11.here hx rfl (hb hby at_44) ?_
    show Steps p.tables e below (T11.setTop (mkF m 46 #[.val (.int p1), .val (.int p2), .unset, .unset, .unset] [(.int (9 : Int32)), (.int (8 : Int32)), (.ref b3), (.ref b3)])) _
    refine st12 _ ?_
    show Steps p.tables e below (T12.setTop (mkF m 47 #[.val (.int p1), .val (.int p2), .unset, .unset, .unset] [(.ref b3)])) _
    refine XS.dup X12.here hx rfl (hb hby at_47) rfl rfl ?_
    show Steps p.tables e below (T12.setTop (mkF m 48 #[.val (.int p1), .val (.int p2), .unset, .unset, .unset] [(.ref b3), (.ref b3)])) _
    refine XS.bipush X12.here hx rfl (hb hby at_48) ?_
    show Steps p.tables e below (T12.setTop (mkF m 50 #[.val (.int p1), .val (.int p2), .unset, .unset, .unset] [(.int (9 : Int32)), (.ref b3), (.ref b3)])) _
    refine XS.bipush X12.here hx rfl (hb hby at_50) ?_
    show Steps p.tables e below (T12.setTop (mkF m 52 #[.val (.int p1), .val (.int p2), .unset, .unset, .unset] [(.int (11 : Int32)), (.int (9 : Int32)), (.ref b3), (.ref b3)])) _
    refine st13 _ ?_
    show Steps p.tables e below (T13.setTop (mkF m 53 #[.val (.int p1), .val (.int p2), .unset, .unset, .unset] [(.ref b3)])) _
    refine XS.dup X13.here hx rfl (hb hby at_53) rfl rfl ?_
    show Steps p.tables e below (T13.setTop (mkF m 54 #[.val (.int p1), .val (.int p2), .unset, .unset, .unset] [(.ref b3), (.ref b3)])) _
    refine XS.bipush X13.here hx rfl (hb hby at_54) ?_
    show Steps p.tables e below (T13.setTop (mkF m 56 #[.val (.int p1), .val (.int p2), .unset, .unset, .unset] [(.int (10 : Int32)), (.ref b3), (.ref b3)])) _
    refine XS.bipush X13.here hx rfl (hb hby at_56) ?_
    show Steps p.tables e below (T13.setTop (mkF m 58 #[.val (.int p1), .val (.int p2), .unset, .unset, .unset] [(.int (12 : Int32)), (.int (10 : Int32)), (.ref b3), (.ref b3)])) _
    refine st14 _ ?_
    show Steps p.tables e below (T14.setTop (mkF m 59 #[.val (.int p1), .val (.int p2), .unset, .unset, .unset] [(.ref b3)])) _
    refine XS.dup X14.here hx rfl (hb hby at_59) rfl rfl ?_
    show Steps p.tables e below (T14.setTop (mkF m 60 #[.val (.int p1), .val (.int p2), .unset, .unset, .unset] [(.ref b3), (.ref b3)])) _
    refine XS.bipush X14.here hx rfl (hb hby at_60) ?_
    show Steps p.tables e below (T14.setTop (mkF m 62 #[.val (.int p1), .val (.int p2), .unset, .unset, .unset] [(.int (11 : Int32)), (.ref b3), (.ref b3)])) _
    refine XS.bipush X14.here hx rfl (hb hby at_62) ?_
    show Steps p.tables e below (T14.setTop (mkF m 64 #[.val (.int p1), .val (.int p2), .unset, .unset, .unset] [(.int (13 : Int32)), (.int (11 : Int32)), (.ref b3), (.ref b3)])) _
    refine st15 _ ?_
    show Steps p.tables e below (T15.setTop (mkF m 65 #[.val (.int p1), .val (.int p2), .unset, .unset, .unset] [(.ref b3)])) _
    refine XS.dup X15.here hx rfl (hb hby at_65) rfl rfl ?_
    show Steps p.tables e below (T15.setTop (mkF m 66 #[.val (.int p1), .val (.int p2), .unset, .unset, .unset] [(.ref b3), (.ref b3)])) _
    refine XS.bipush X15.here hx rfl (hb hby at_66) ?_
    show Steps p.tables e below (T15.setTop (mkF m 68 #[.val (.int p1), .val (.int p2), .unset, .unset, .unset] [(.int (12 : Int32)), (.ref b3), (.ref b3)])) _
    refine XS.bipush X15.here hx rfl (hb hby at_68) ?_
    show Steps p.tables e below (T15.setTop (mkF m 70 #[.val (.int p1), .val (.int p2), .unset, .unset, .unset] [(.int (14 : Int32)), (.int (12 : Int32)), (.ref b3), (.ref b3)])) _
    refine st16 _ ?_
    show Steps p.tables e below (T16.setTop (mkF m 71 #[.val (.int p1), .val (.int p2), .unset, .unset, .unset] [(.ref b3)])) _
    refine XS.dup X16.here hx rfl (hb hby at_71) rfl rfl ?_
    show Steps p.tables e below (T16.setTop (mkF m 72 #[.val (.int p1), .val (.int p2), .unset, .unset, .unset] [(.ref b3), (.ref b3)])) _
    refine XS.bipush X16.here hx rfl (hb hby at_72) ?_
    show Steps p.tables e below (T16.setTop (mkF m 74 #[.val (.int p1), .val (.int p2), .unset, .unset, .unset] [(.int (13 : Int32)), (.ref b3), (.ref b3)])) _
    refine XS.bipush X16.here hx rfl (hb hby at_74) ?_
    show Steps p.tables e below (T16.setTop (mkF m 76 #[.val (.int p1), .val (.int p2), .unset, .unset, .unset] [(.int (15 : Int32)), (.int (13 : Int32)), (.ref b3), (.ref b3)])) _
    refine st17 _ ?_
    show Steps p.tables e below (T17.setTop (mkF m 77 #[.val (.int p1), .val (.int p2), .unset, .unset, .unset] [(.ref b3)])) _
    refine XS.dup X17.here hx rfl (hb hby at_77) rfl rfl ?_
    show Steps p.tables e below (T17.setTop (mkF m 78 #[.val (.int p1), .val (.int p2), .unset, .unset, .unset] [(.ref b3), (.ref b3)])) _
    refine XS.bipush X17.here hx rfl (hb hby at_78) ?_
    show Steps p.tables e below (T17.setTop (mkF m 80 #[.val (.int p1), .val (.int p2), .unset, .unset, .unset] [(.int (14 : Int32)), (.ref b3), (.ref b3)])) _
    refine XS.bipush X17.here hx rfl (hb hby at_80) ?_
    show Steps p.tables e below (T17.setTop (mkF m 82 #[.val (.int p1), .val (.int p2), .unset, .unset, .unset] [(.int (100 : Int32)), (.int (14 : Int32)), (.ref b3), (.ref b3)])) _
    refine st18 _ ?_
    show Steps p.tables e below (T18.setTop (mkF m 83 #[.val (.int p1), .val (.int p2), .unset, .unset, .unset] [(.ref b3)])) _
    refine XS.dup X18.here hx rfl (hb hby at_83) rfl rfl ?_
    show Steps p.tables e below (T18.setTop (mkF m 84 #[.val (.int p1), .val (.int p2), .unset, .unset, .unset] [(.ref b3), (.ref b3)])) _
    refine XS.bipush X18.here hx rfl (hb hby at_84) ?_
    show Steps p.tables e below (T18.setTop (mkF m 86 #[.val (.int p1), .val (.int p2), .unset, .unset, .unset] [(.int (15 : Int32)), (.ref b3), (.ref b3)])) _
    refine XS.bipush X18.here hx rfl (hb hby at_86) ?_
    show Steps p.tables e below (T18.setTop (mkF m 88 #[.val (.int p1), .val (.int p2), .unset, .unset, .unset] [(.int (101 : Int32)), (.int (15 : Int32)), (.ref b3), (.ref b3)])) _
    refine st19 _ ?_
    show Steps p.tables e below (T19.setTop (mkF m 89 #[.val (.int p1), .val (.int p2), .unset, .unset, .unset] [(.ref b3)])) _
    refine XS.dup X19.here hx rfl (hb hby at_89) rfl rfl ?_
    show Steps p.tables e below (T19.setTop (mkF m 90 #[.val (.int p1), .val (.int p2), .unset, .unset, .unset] [(.ref b3), (.ref b3)])) _
    refine XS.bipush X19.here hx rfl (hb hby at_90) ?_
    show Steps p.tables e below (T19.setTop (mkF m 92 #[.val (.int p1), .val (.int p2), .unset, .unset, .unset] [(.int (16 : Int32)), (.ref b3), (.ref b3)])) _
    refine XS.bipush X19.here hx rfl (hb hby at_92) ?_
    show Steps p.tables e below (T19.setTop (mkF m 94 #[.val (.int p1), .val (.int p2), .unset, .unset, .unset] [(.int (-11 : Int32)), (.int (16 : Int32)), (.ref b3), (.ref b3)])) _
    refine st20 _ ?_
    show Steps p.tables e below (T20.setTop (mkF m 95 #[.val (.int p1), .val (.int p2), .unset, .unset, .unset] [(.ref b3)])) _
    refine XS.astoreN X20.here hx rfl (hb hby at_95) rfl rfl (l' := #[.val (.int p1), .val (.int p2), .val (.ref b3), .unset, .unset]) rfl ?_
    show Steps p.tables e below (T20.setTop (mkF m 96 #[.val (.int p1), .val (.int p2), .val (.ref b3), .unset, .unset] [])) _
    refine XS.iloadN X20.here hx rfl (hb hby at_96) rfl ?_
    show Steps p.tables e below (T20.setTop (mkF m 97 #[.val (.int p1), .val (.int p2), .val (.ref b3), .unset, .unset] [(.int p2)])) _
    refine XS.bipush X20.here hx rfl (hb hby at_97) ?_
    show Steps p.tables e below (T20.setTop (mkF m 99 #[.val (.int p1), .val (.int p2), .val (.ref b3), .unset, .unset] [(.int (31 : Int32)), (.int p2)])) _
    refine XS.iand X20.here hx rfl (hb hby at_99) rfl ?_
    show Steps p.tables e below (T20.setTop (mkF m 100 #[.val (.int p1), .val (.int p2), .val (.ref b3), .unset, .unset] [(.int (p2 &&& (31 : Int32)))])) _
    refine XS.istoreN X20.here hx rfl (hb hby at_100) rfl (l' := #[.val (.int p1), .val (.int p2), .val (.ref b3), .val (.int (p2 &&& (31 : Int32))), .unset]) rfl ?_
    show Steps p.tables e below (T20.setTop (mkF m 101 #[.val (.int p1), .val (.int p2), .val (.ref b3), .val (.int (p2 &&& (31 : Int32))), .unset] [])) _
    refine XS.iloadN X20.here hx rfl (hb hby at_101) rfl ?_
    show Steps p.tables e below (T20.setTop (mkF m 102 #[.val (.int p1), .val (.int p2), .val (.ref b3), .val (.int (p2 &&& (31 : Int32))), .unset] [(.int (p2 &&& (31 : Int32)))])) _
    refine XS.bipush X20.here hx rfl (hb hby at_102) ?_
    show Steps p.tables e below (T20.setTop (mkF m 104 #[.val (.int p1), .val (.int p2), .val (.ref b3), .val (.int (p2 &&& (31 : Int32))), .unset] [(.int (17 : Int32)), (.int (p2 &&& (31 : Int32)))])) _
    refine XS.icmpYes X20.here hx rfl (pc0 := 104) (pc' := 115) rfl (hb hby at_104) rfl (flt hc104).2.1 (by decide) (by decide) ?_
    show Steps p.tables e below (T20.setTop (mkF m 115 #[.val (.int p1), .val (.int p2), .val (.ref b3), .val (.int (p2 &&& (31 : Int32))), .unset] [])) _
    refine XS.iloadN X20.here hx rfl (hb hby at_115) rfl ?_
    show Steps p.tables e below (T20.setTop (mkF m 116 #[.val (.int p1), .val (.int p2), .val (.ref b3), .val (.int (p2 &&& (31 : Int32))), .unset] [(.int (p2 &&& (31 : Int32)))])) _
    refine XS.bipush X20.here hx rfl (hb hby at_116) ?_
    show Steps p.tables e below (T20.setTop (mkF m 118 #[.val (.int p1), .val (.int p2), .val (.ref b3), .val (.int (p2 &&& (31 : Int32))), .unset] [(.int (24 : Int32)), (.int (p2 &&& (31 : Int32)))])) _
    refine XS.icmpYes X20.here hx rfl (pc0 := 118) (pc' := 135) rfl (hb hby at_118) rfl (flt hc118).2.1 (by decide) (by decide) ?_
    show Steps p.tables e below (T20.setTop (mkF m 135 #[.val (.int p1), .val (.int p2), .val (.ref b3), .val (.int (p2 &&& (31 : Int32))), .unset] [])) _
    refine XS.iloadN X20.here hx rfl (hb hby at_135) rfl ?_
    show Steps p.tables e below (T20.setTop (mkF m 136 #[.val (.int p1), .val (.int p2), .val (.ref b3), .val (.int (p2 &&& (31 : Int32))), .unset] [(.int p1)])) _
    refine XS.istore X20.here hx rfl (hb hby at_136) rfl (l' := #[.val (.int p1), .val (.int p2), .val (.ref b3), .val (.int (p2 &&& (31 : Int32))), .val (.int p1)]) rfl ?_
    show Steps p.tables e below (T20.setTop (mkF m 138 #[.val (.int p1), .val (.int p2), .val (.ref b3), .val (.int (p2 &&& (31 : Int32))), .val (.int p1)] [])) _
    refine XS.iload X20.here hx rfl (hb hby at_138) rfl ?_
    show Steps p.tables e below (T20.setTop (mkF m 140 #[.val (.int p1), .val (.int p2), .val (.ref b3), .val (.int (p2 &&& (31 : Int32))), .val (.int p1)] [(.int p1)])) _
    refine st21 _ ?_
    show Steps p.tables e below (T21.setTop (mkF m 143 #[.val (.int p1), .val (.int p2), .val (.ref b3), .val (.int (p2 &&& (31 : Int32))), .val (.int p1)] [.null])) _
    refine XS.iload X21.here hx rfl (hb hby at_143) rfl ?_
    show Steps p.tables e below (T21.setTop (mkF m 145 #[.val (.int p1), .val (.int p2), .val (.ref b3), .val (.int (p2 &&& (31 : Int32))), .val (.int p1)] [(.int p1), .null])) _
    refine st22 _ ?_
    show Steps p.tables e below (T22.setTop (mkF m 148 #[.val (.int p1), .val (.int p2), .val (.ref b3), .val (.int (p2 &&& (31 : Int32))), .val (.int p1)] [.null, .null])) _
    refine Jvm.RoadKit.acmp (g := (mkF m 148 #[.val (.int p1), .val (.int p2), .val (.ref b3), .val (.int (p2 &&& (31 : Int32))), .val (.int p1)] [.null, .null])) X22 hx rfl rfl rfl (pc0 := 148) (pc' := 151) (same := true) rfl (hb hby at_148) rfl (decide_eq_true rfl) (by decide) (by decide) ?_
    show Steps p.tables e below (T22.setTop (mkF m 151 #[.val (.int p1), .val (.int p2), .val (.ref b3), .val (.int (p2 &&& (31 : Int32))), .val (.int p1)] [])) _
    refine XS.iconst X22.here hx rfl (hb hby at_151) ?_
    show Steps p.tables e below (T22.setTop (mkF m 152 #[.val (.int p1), .val (.int p2), .val (.ref b3), .val (.int (p2 &&& (31 : Int32))), .val (.int p1)] [(.int (1 : Int32))])) _
    refine XS.goto X22.here hx rfl (pc0 := 152) (pc' := 156) rfl (hb hby at_152) (by decide) (by decide) ?_
    show Steps p.tables e below (T22.setTop (mkF m 156 #[.val (.int p1), .val (.int p2), .val (.ref b3), .val (.int (p2 &&& (31 : Int32))), .val (.int p1)] [(.int (1 : Int32))])) _
    exact retN X22 hx (t := .boolean) Bd.returns (by simp) (hb hby at_156) hr
  · show Q0 n0 _ T22.heap _
    rw [eq22]
    exact ⟨rfl, N22⟩

theorem own_spc (w : Nat → Addr) (p : Int32) : (∃ ww, Spc w p (.ref ww)) ∨ Spc w p .null := by
  by_cases h : ∃ k, k < 17 ∧ own_g k = p
  · obtain ⟨k, h1, h2⟩ := h
    exact Or.inl ⟨w k, Or.inl ⟨k, h1, h2, rfl⟩⟩
  · exact Or.inr (Or.inr ⟨rfl, fun k h1 h2 => h ⟨k, h1, h2⟩⟩)
theorem own_sel (p : Int32) (h : (p &&& (31 : Int32)) < (17 : Int32)) : ¬ (p &&& (31 : Int32)) < 0 ∧ (p &&& (31 : Int32)) < (17 : Int32) ∧ ∃ z : Int32, (([.int (1 : Int32), .int (2 : Int32), .int (3 : Int32), .int (4 : Int32), .int (5 : Int32), .int (6 : Int32), .int (7 : Int32), .int (8 : Int32), .int (9 : Int32), .int (11 : Int32), .int (12 : Int32), .int (13 : Int32), .int (14 : Int32), .int (15 : Int32), .int (100 : Int32), .int (101 : Int32), .int (-11 : Int32)] : List Value)).getD ((p &&& (31 : Int32))).toNatClampNeg (.int (0 : Int32)) = .int z := by
  have h1 := (c_and p 31 (by decide)).1
  refine ⟨?_, h, ?_⟩
  · rw [Int32.lt_iff_toInt_lt]
    have z' : (0 : Int32).toInt = 0 := by decide
    rw [z']; omega
  · rw [Int32.lt_iff_toInt_lt] at h
    have z' : (17 : Int32).toInt = 17 := by decide
    rw [z'] at h
    have q : ((p &&& (31 : Int32))).toNatClampNeg < 17 := by
      simp only [Int32.toNatClampNeg]; omega
    generalize ((p &&& (31 : Int32))).toNatClampNeg = n at q
    match n, q with
    | 0, _ => exact ⟨_, rfl⟩
    | 1, _ => exact ⟨_, rfl⟩
    | 2, _ => exact ⟨_, rfl⟩
    | 3, _ => exact ⟨_, rfl⟩
    | 4, _ => exact ⟨_, rfl⟩
    | 5, _ => exact ⟨_, rfl⟩
    | 6, _ => exact ⟨_, rfl⟩
    | 7, _ => exact ⟨_, rfl⟩
    | 8, _ => exact ⟨_, rfl⟩
    | 9, _ => exact ⟨_, rfl⟩
    | 10, _ => exact ⟨_, rfl⟩
    | 11, _ => exact ⟨_, rfl⟩
    | 12, _ => exact ⟨_, rfl⟩
    | 13, _ => exact ⟨_, rfl⟩
    | 14, _ => exact ⟨_, rfl⟩
    | 15, _ => exact ⟨_, rfl⟩
    | 16, _ => exact ⟨_, rfl⟩
    | n + 17, h => exact absurd h (by omega)

theorem rm0 (l : Launch) (Z : State) (a0 : Array Value) (hw : ∀ d ∈ tables_1, d.before a0 Z = true) (ws : List Jvm.Cond) (p1 p2 : Int32) (aA : Addr) (cl : Cell) (w : Nat → Addr) (h0 : Heap) (n0 : Nat) (Z0 : n0 ≤ h0.size) (OF : OpF Z h0 aA cl w) :
    MetFree l x (head1 (Jvm.Cond.code x code maxLocals ret :: ws) room_1) (fun a U => a = #[(.int p1), (.int p2)] ∧ Z.Warmed39 U.vm ∧ U.heap = h0) (fun _ _ _ _ _ => True) (fun _ U o U' => ∃ v L, o = .returned v ∧ Q0 n0 v U'.heap L ∧ FrameEnd U o U' L room_1.cells room_1.slots) := by
  by_cases c1 : (p2 &&& (31 : Int32)) < (17 : Int32)
  · obtain ⟨q1, q2, z, q3⟩ := own_sel p2 c1
    rcases own_spc w z with ⟨ww, HS⟩ | HS
    · exact rm0_00 l Z a0 hw ws p1 p2 z aA cl w ww h0 n0 Z0 OF HS ⟨q1, q2⟩ q3 c1
    · exact rm0_01 l Z a0 hw ws p1 p2 z aA cl w h0 n0 Z0 OF HS ⟨q1, q2⟩ q3 c1
  by_cases c2 : (p2 &&& (31 : Int32)) < (24 : Int32)
  · rcases own_spc w ((p1 &&& (255 : Int32)) - (128 : Int32)) with ⟨ww, HS⟩ | HS
    · exact rm0_10 l Z a0 hw ws p1 p2 aA cl w ww h0 n0 Z0 OF HS c1 c2
    · exact rm0_11 l Z a0 hw ws p1 p2 aA cl w h0 n0 Z0 OF HS c1 c2
  · rcases own_spc w p1 with ⟨ww, HS⟩ | HS
    · exact rm0_20 l Z a0 hw ws p1 p2 aA cl w ww h0 n0 Z0 OF HS c1 c2
    · exact rm0_21 l Z a0 hw ws p1 p2 aA cl w h0 n0 Z0 OF HS c1 c2

set_option maxRecDepth 65536 in
set_option maxHeartbeats 40000000 in
theorem comes_1 {Post : Tables → Env → Array Value → State → Outcome → State → Prop} (hpost : ∀ tb e args s v u, (limb_1_1.after args s (.returned v) u = true ∧ limb_1_2.after args s (.returned v) u = true ∧ True) → FrameEnd s (.returned v) u (Jvm.fieldLocs frame_1_writes args s ++ Jvm.arrayLocs frame_1_arrays args s ++ Jvm.staticLocs frame_1_statics s) 16 128 → Post tb e args s (.returned v) u) :
    ArmFor flags0 classFile x code maxLocals ret World_1 tables_1 room_1 Calls_1 rest_1 Pre_1 Post := by
  intro l hfl _ _ p e ha hc hk s m args below hf hA hF happ hP
  obtain ⟨hcalls, hrest, hpre⟩ := hP
  obtain ⟨-, -, -, hnamed, -, -, -, hat⟩ := (Spec.applies_iff hf).mp happ
  obtain ⟨hg, hn⟩ := and_e (Cond.before_iff.mp (show (Jvm.Cond.and given_1 narrow_1).before args s = true from hpre))
  obtain ⟨g23, g24⟩ := and_e hg
  obtain ⟨g25, g26⟩ := and_e g24
  obtain ⟨w0, w1, rfl⟩ : ∃ w0 w1 : Value, args = #[w0, w1] := by
    have hs : args.size = 2 := by simpa [Cond.value, given_1] using g23
    obtain ⟨L⟩ := args
    match L, hs with
    | [w0, w1], _ => exact ⟨w0, w1, rfl⟩
  have hw := fun d (hd : d ∈ tables_1) => atoms_spec (ws := Jvm.Cond.code x code maxLocals ret :: tables_1) hat d (List.mem_cons_of_mem _ hd)
  have hfit : Fit s := fun {y c} hc i hi => by
    obtain ⟨ha, rfl⟩ := Array.getElem?_eq_some_iff.mp hc
    have q := List.all_eq_true.mp ((Array.all_eq_true_iff_forall_mem.mp hF) _ (Array.getElem_mem ha)) i (List.mem_range.mpr hi)
    simpa [Array.getElem?_eq_getElem hi] using q
  obtain ⟨i0, ei0⟩ := is_v g25
  obtain rfl : w0 = (.int i0) := Option.some.inj ei0
  obtain ⟨i1, ei1⟩ := is_v g26
  obtain rfl : w1 = (.int i1) := Option.some.inj ei1
  obtain ⟨n0, hn⟩ := and_e hn
  obtain ⟨n1, hn⟩ := and_e hn
  obtain ⟨n2, hn⟩ := and_e hn
  obtain ⟨n3, hn⟩ := and_e hn
  obtain ⟨n4, hn⟩ := and_e hn
  obtain ⟨n5, hn⟩ := and_e hn
  obtain ⟨n6, hn⟩ := and_e hn
  obtain ⟨n7, hn⟩ := and_e hn
  obtain ⟨n8, hn⟩ := and_e hn
  obtain ⟨n9, hn⟩ := and_e hn
  obtain ⟨n10, hn⟩ := and_e hn
  obtain ⟨n11, hn⟩ := and_e hn
  obtain ⟨n12, hn⟩ := and_e hn
  obtain ⟨n13, hn⟩ := and_e hn
  obtain ⟨n14, hn⟩ := and_e hn
  obtain ⟨n15, hn⟩ := and_e hn
  obtain ⟨n16, hn⟩ := and_e hn
  obtain ⟨n17, hn⟩ := and_e hn
  obtain ⟨n18, hn⟩ := and_e hn
  obtain ⟨n19, hn⟩ := and_e hn
  obtain ⟨n20, hn⟩ := and_e hn
  obtain ⟨n21, hn⟩ := and_e hn
  obtain ⟨n22, hn⟩ := and_e hn
  obtain ⟨n23, hn⟩ := and_e hn
  obtain ⟨n24, hn⟩ := and_e hn
  obtain ⟨n25, hn⟩ := and_e hn
  obtain ⟨n26, hn⟩ := and_e hn
  obtain ⟨n27, hn⟩ := and_e hn
  obtain ⟨n28, hn⟩ := and_e hn
  obtain ⟨n29, hn⟩ := and_e hn
  obtain ⟨n30, hn⟩ := and_e hn
  obtain ⟨n31, hn⟩ := and_e hn
  obtain ⟨n32, hn⟩ := and_e hn
  obtain ⟨n33, hn⟩ := and_e hn
  obtain ⟨n34, hn⟩ := and_e hn
  obtain ⟨n35, hn⟩ := and_e hn
  obtain ⟨n36, hn⟩ := and_e hn
  obtain ⟨n37, hn⟩ := and_e hn
  obtain ⟨n38, hn⟩ := and_e hn
  obtain ⟨n39, hn⟩ := and_e hn
  obtain ⟨n40, hn⟩ := and_e hn
  obtain ⟨n41, hn⟩ := and_e hn
  obtain ⟨n42, hn⟩ := and_e hn
  obtain ⟨n43, hn⟩ := and_e hn
  obtain ⟨n44, hn⟩ := and_e hn
  obtain ⟨n45, hn⟩ := and_e hn
  obtain ⟨n46, hn⟩ := and_e hn
  obtain ⟨n47, hn⟩ := and_e hn
  obtain ⟨n48, hn⟩ := and_e hn
  obtain ⟨n49, hn⟩ := and_e hn
  obtain ⟨n50, hn⟩ := and_e hn
  obtain ⟨n51, hn⟩ := and_e hn
  have n52 := hn
  obtain ⟨bA, ebA⟩ := arr_v n0
  obtain ⟨cA, AA⟩ := Arr.start ebA n0
  obtain ⟨z1, z2⟩ := own_len ebA AA n1
  have zz : cA.slots.size = 17 := by
    have q := len_toInt z1
    rw [z2] at q
    have z' : (17 : Int32).toInt = 17 := by decide
    rw [z'] at q; omega
  obtain ⟨b0, eb0⟩ := exa_v n2
  obtain ⟨b1, eb1⟩ := exa_v n5
  obtain ⟨b2, eb2⟩ := exa_v n8
  obtain ⟨b3, eb3⟩ := exa_v n11
  obtain ⟨b4, eb4⟩ := exa_v n14
  obtain ⟨b5, eb5⟩ := exa_v n17
  obtain ⟨b6, eb6⟩ := exa_v n20
  obtain ⟨b7, eb7⟩ := exa_v n23
  obtain ⟨b8, eb8⟩ := exa_v n26
  obtain ⟨b9, eb9⟩ := exa_v n29
  obtain ⟨b10, eb10⟩ := exa_v n32
  obtain ⟨b11, eb11⟩ := exa_v n35
  obtain ⟨b12, eb12⟩ := exa_v n38
  obtain ⟨b13, eb13⟩ := exa_v n41
  obtain ⟨b14, eb14⟩ := exa_v n44
  obtain ⟨b15, eb15⟩ := exa_v n47
  obtain ⟨b16, eb16⟩ := exa_v n50
  have OF : OpF s s.heap bA cA (fun j => ([b0, b1, b2, b3, b4, b5, b6, b7, b8, b9, b10, b11, b12, b13, b14, b15, b16] : List Addr).getD j 0) := by
    refine ⟨Sta.start ebA (Or.inr ⟨(hw _ (List.mem_of_getElem? (i := 3) rfl)), (hw _ (List.mem_of_getElem? (i := 6) rfl))⟩), AA, zz, ?_, Sta.start eb0 (Or.inr ⟨(hw _ (List.mem_of_getElem? (i := 3) rfl)), (hw _ (List.mem_of_getElem? (i := 7) rfl))⟩), Sta.start eb1 (Or.inr ⟨(hw _ (List.mem_of_getElem? (i := 3) rfl)), (hw _ (List.mem_of_getElem? (i := 10) rfl))⟩), Sta.start eb2 (Or.inr ⟨(hw _ (List.mem_of_getElem? (i := 3) rfl)), (hw _ (List.mem_of_getElem? (i := 11) rfl))⟩), Sta.start eb3 (Or.inr ⟨(hw _ (List.mem_of_getElem? (i := 3) rfl)), (hw _ (List.mem_of_getElem? (i := 12) rfl))⟩), Sta.start eb4 (Or.inr ⟨(hw _ (List.mem_of_getElem? (i := 3) rfl)), (hw _ (List.mem_of_getElem? (i := 19) rfl))⟩), Sta.start eb5 (Or.inr ⟨(hw _ (List.mem_of_getElem? (i := 3) rfl)), (hw _ (List.mem_of_getElem? (i := 20) rfl))⟩), Sta.start eb6 (Or.inr ⟨(hw _ (List.mem_of_getElem? (i := 3) rfl)), (hw _ (List.mem_of_getElem? (i := 21) rfl))⟩), Sta.start eb7 (Or.inr ⟨(hw _ (List.mem_of_getElem? (i := 3) rfl)), (hw _ (List.mem_of_getElem? (i := 22) rfl))⟩), Sta.start eb8 (Or.inr ⟨(hw _ (List.mem_of_getElem? (i := 3) rfl)), (hw _ (List.mem_of_getElem? (i := 23) rfl))⟩), Sta.start eb9 (Or.inr ⟨(hw _ (List.mem_of_getElem? (i := 3) rfl)), (hw _ (List.mem_of_getElem? (i := 24) rfl))⟩), Sta.start eb10 (Or.inr ⟨(hw _ (List.mem_of_getElem? (i := 3) rfl)), (hw _ (List.mem_of_getElem? (i := 25) rfl))⟩), Sta.start eb11 (Or.inr ⟨(hw _ (List.mem_of_getElem? (i := 3) rfl)), (hw _ (List.mem_of_getElem? (i := 26) rfl))⟩), Sta.start eb12 (Or.inr ⟨(hw _ (List.mem_of_getElem? (i := 3) rfl)), (hw _ (List.mem_of_getElem? (i := 27) rfl))⟩), Sta.start eb13 (Or.inr ⟨(hw _ (List.mem_of_getElem? (i := 3) rfl)), (hw _ (List.mem_of_getElem? (i := 28) rfl))⟩), Sta.start eb14 (Or.inr ⟨(hw _ (List.mem_of_getElem? (i := 3) rfl)), (hw _ (List.mem_of_getElem? (i := 29) rfl))⟩), Sta.start eb15 (Or.inr ⟨(hw _ (List.mem_of_getElem? (i := 3) rfl)), (hw _ (List.mem_of_getElem? (i := 30) rfl))⟩), Sta.start eb16 (Or.inr ⟨(hw _ (List.mem_of_getElem? (i := 3) rfl)), (hw _ (List.mem_of_getElem? (i := 31) rfl))⟩)⟩
    intro j hj
    match j, hj with
    | 0, _ => exact ⟨own_elem ebA AA eb0 n3, own_fldI eb0 n4⟩
    | 1, _ => exact ⟨own_elem ebA AA eb1 n6, own_fldI eb1 n7⟩
    | 2, _ => exact ⟨own_elem ebA AA eb2 n9, own_fldI eb2 n10⟩
    | 3, _ => exact ⟨own_elem ebA AA eb3 n12, own_fldI eb3 n13⟩
    | 4, _ => exact ⟨own_elem ebA AA eb4 n15, own_fldI eb4 n16⟩
    | 5, _ => exact ⟨own_elem ebA AA eb5 n18, own_fldI eb5 n19⟩
    | 6, _ => exact ⟨own_elem ebA AA eb6 n21, own_fldI eb6 n22⟩
    | 7, _ => exact ⟨own_elem ebA AA eb7 n24, own_fldI eb7 n25⟩
    | 8, _ => exact ⟨own_elem ebA AA eb8 n27, own_fldI eb8 n28⟩
    | 9, _ => exact ⟨own_elem ebA AA eb9 n30, own_fldI eb9 n31⟩
    | 10, _ => exact ⟨own_elem ebA AA eb10 n33, own_fldI eb10 n34⟩
    | 11, _ => exact ⟨own_elem ebA AA eb11 n36, own_fldI eb11 n37⟩
    | 12, _ => exact ⟨own_elem ebA AA eb12 n39, own_fldI eb12 n40⟩
    | 13, _ => exact ⟨own_elem ebA AA eb13 n42, own_fldI eb13 n43⟩
    | 14, _ => exact ⟨own_elem ebA AA eb14 n45, own_fldI eb14 n46⟩
    | 15, _ => exact ⟨own_elem ebA AA eb15 n48, own_fldI eb15 n49⟩
    | 16, _ => exact ⟨own_elem ebA AA eb16 n51, own_fldI eb16 n52⟩
    | n + 17, h => exact absurd h (by omega)
  obtain ⟨n, o, h1, h2, h3, _, L, rfl, ⟨rfl, N⟩, hq⟩ := rm0 l s _ hw tables_1 i0 i1 bA cA _ s.heap s.heap.size (Nat.le_refl _) OF p e ha hc hk s m _ below hf ((Spec.applies_iff_loose hf).mp happ).1 ⟨rfl, State.Warmed39.refl s, rfl⟩ trivial
  refine ⟨n, _, h1, h2, h3, hpost _ _ _ _ _ _ ⟨Cond.after_iff.mpr rfl, Cond.after_iff.mpr (eq_i res_at (Term.int_eval (1)) rfl), trivial⟩ ⟨hq.1, hq.2.1, (hq.2.2.sift fun y hy => Or.inr (N y hy)).mono (by decide) (by decide)⟩⟩
theorem main_1_1 : Claimed_1_1 := comes_1 fun _ _ _ _ _ _ h hF => ⟨h.1, hF⟩
theorem main_1_2 : Claimed_1_2 := comes_1 fun _ _ _ _ _ _ h hF => ⟨h.2.1, hF⟩

end Jvm.Pilot.@@N@@
namespace Jvm.Pilot.@@N@@
open Jvm Jvm.ClassFile Sem Op Lib Jvm.Free Jvm.Stand Jvm.Pilot.@@N@@.Jvm.D
/-! MADE BY PROGRAM (witnessworld.py) out of the Statement's table words and the real class files: 13 classes; the members and pool entries that the words name. The judged class is class 1, her method 1. -/
namespace start1
open Jvm.ClassFile
def u (s : String) : CpInfo := .utf8 (stringToUtf16 s)
/-- a pool by its gaps: so many unusable entries, then the entry; so many at the end -/
def gap : Nat → List CpInfo → List CpInfo
  | 0, r => r
  | n + 1, r => .unusable :: gap n r
def poolList (es : List (Nat × CpInfo)) (last : Nat) : List CpInfo := es.foldr (fun e r => gap e.1 (e.2 :: r)) (gap last [])
def pool (es : List (Nat × CpInfo)) (last : Nat) : Array CpInfo := ⟨poolList es last⟩
def fileOf (pool : Array CpInfo) (this : Nat) (attrs : Array Attribute := #[]) (ms : Array MethodInfo := #[]) (fl : Nat := 33) (sup : Nat := 0) (ifs : Array Nat := #[]) (fds : Array FieldInfo := #[]) : ClassFile where
  minorVersion := 0
  majorVersion := 65
  constantPool := pool
  accessFlags := fl
  thisClass := this
  superClass := sup
  interfaces := ifs
  fields := fds
  methods := ms
  attributes := attrs
def plain (name : String) (sup : Option ClassId) : Class where
  name := name
  kind := .ordinary
  loader := none
  accessFlags := 33
  super := sup
  interfaces := #[]
  cf := none
  fields := #[]
  methods := #[]
  instanceTypes := #[]
  staticTypes := #[]
  resolved := #[]
  callSites := []
  init := .initialized
  statics := none
  mirror := none

def pool0 : Array CpInfo := pool [(5, u "<init>"), (0, u "()V"), (1, .class_ 10), (1, u "java/lang/Object")] 113

def k0m0 : Method := { name := "<init>", desc := "()V", sig := { parameters := [], returnType := none }, accessFlags := 1, code := none }
/-- java/lang/Object -/
def k0 : Class := { plain "java/lang/Object" none with
  accessFlags := 33
  interfaces := #[]
  cf := some (fileOf pool0 8 #[] #[{ accessFlags := 1, nameIndex := 5, descriptorIndex := 6, attributes := #[] }] 33 0 #[] #[])
  fields := #[]
  methods := #[k0m0]
  instanceTypes := #[]
  staticTypes := #[]
  resolved := Array.replicate 124 none
  statics := none }

def pool1 : Array CpInfo := pool [(2, .class_ 4), (1, u "java/lang/Object"), (0, u "<init>"), (0, u "()V"), (0, .methodref 8 9), (0, .class_ 10), (0, .nameAndType 11 12), (0, u "com/example/ulmus/ulmus/core/wire/OpCode"), (0, u "of"), (0, u "(I)Lcom/example/ulmus/ulmus/core/wire/OpCode;"), (0, .methodref 14 15), (0, .class_ 16), (0, .nameAndType 17 12), (0, u "com/example/ulmus/ulmus/core/wire/OpCodeOfPinLaw"), (0, u "expected"), (0, .fieldref 8 19), (0, .nameAndType 20 21), (0, u "CREATE"), (0, u "Lcom/example/ulmus/ulmus/core/wire/OpCode;"), (0, .fieldref 8 23), (0, .nameAndType 24 21), (0, u "DELETE"), (0, .fieldref 8 26), (0, .nameAndType 27 21), (0, u "EXISTS"), (0, .fieldref 8 29), (0, .nameAndType 30 21), (0, u "GET_DATA"), (0, .fieldref 8 32), (0, .nameAndType 33 21), (0, u "SET_DATA"), (0, .fieldref 8 35), (0, .nameAndType 36 21), (0, u "GET_ACL"), (0, .fieldref 8 38), (0, .nameAndType 39 21), (0, u "SET_ACL"), (0, .fieldref 8 41), (0, .nameAndType 42 21), (0, u "GET_CHILDREN"), (0, .fieldref 8 44), (0, .nameAndType 45 21), (0, u "SYNC"), (0, .fieldref 8 47), (0, .nameAndType 48 21), (0, u "PING"), (0, .fieldref 8 50), (0, .nameAndType 51 21), (0, u "GET_CHILDREN2"), (0, .fieldref 8 53), (0, .nameAndType 54 21), (0, u "CHECK"), (0, .fieldref 8 56), (0, .nameAndType 57 21), (0, u "MULTI"), (0, .fieldref 8 59), (0, .nameAndType 60 21), (0, u "CREATE2"), (0, .fieldref 8 62), (0, .nameAndType 63 21), (0, u "AUTH"), (0, .fieldref 8 65), (0, .nameAndType 66 21), (0, u "SET_WATCHES"), (0, .fieldref 8 68), (0, .nameAndType 69 21), (0, u "CLOSE_SESSION"), (2, u "law"), (0, u "(II)Z")] 5

def k1m0 : Method := { name := "<init>", desc := "()V", sig := { parameters := [], returnType := none }, accessFlags := 1, code := none }
def k1c1 : Code := { maxStack := 4, maxLocals := 5, code := code, exceptionTable := #[], attributes := #[] }
def k1m1 : Method := { name := "law", desc := "(II)Z", sig := { parameters := [.int, .int], returnType := some .boolean }, accessFlags := 9, code := some k1c1 }
def k1c2 : Code := { maxStack := 2, maxLocals := 1, code := method_3_code, exceptionTable := #[], attributes := #[] }
def k1m2 : Method := { name := "expected", desc := "(I)Lcom/example/ulmus/ulmus/core/wire/OpCode;", sig := { parameters := [.int], returnType := some (.object "com/example/ulmus/ulmus/core/wire/OpCode") }, accessFlags := 10, code := some k1c2 }
/-- com/example/ulmus/ulmus/core/wire/OpCodeOfPinLaw -/
def k1 : Class := { plain "com/example/ulmus/ulmus/core/wire/OpCodeOfPinLaw" (some 0) with
  accessFlags := 49
  interfaces := #[]
  cf := some (fileOf pool1 14 #[] #[{ accessFlags := 1, nameIndex := 5, descriptorIndex := 6, attributes := #[] }, { accessFlags := 9, nameIndex := 72, descriptorIndex := 73, attributes := #[] }, { accessFlags := 10, nameIndex := 17, descriptorIndex := 12, attributes := #[] }] 49 2 #[] #[])
  fields := #[]
  methods := #[k1m0, k1m1, k1m2]
  instanceTypes := #[]
  staticTypes := #[]
  resolved := Array.replicate 79 none
  statics := none }

def pool2 : Array CpInfo := pool [(1, .class_ 2), (0, u "java/lang/constant/Constable"), (0, .class_ 4), (0, u "java/lang/Object")] 6

/-- java/lang/constant/Constable -/
def k2 : Class := { plain "java/lang/constant/Constable" (some 0) with
  accessFlags := 1537
  interfaces := #[]
  cf := some (fileOf pool2 1 #[] #[] 1537 3 #[] #[])
  fields := #[]
  methods := #[]
  instanceTypes := #[]
  staticTypes := #[]
  resolved := Array.replicate 11 none
  statics := none }

def pool3 : Array CpInfo := pool [(1, .class_ 2), (0, u "java/lang/Comparable"), (0, .class_ 4), (0, u "java/lang/Object")] 7

/-- java/lang/Comparable -/
def k3 : Class := { plain "java/lang/Comparable" (some 0) with
  accessFlags := 1537
  interfaces := #[]
  cf := some (fileOf pool3 1 #[] #[] 1537 3 #[] #[])
  fields := #[]
  methods := #[]
  instanceTypes := #[]
  staticTypes := #[]
  resolved := Array.replicate 12 none
  statics := none }

def pool4 : Array CpInfo := pool [(1, .class_ 2), (0, u "java/io/Serializable"), (0, .class_ 4), (0, u "java/lang/Object")] 2

/-- java/io/Serializable -/
def k4 : Class := { plain "java/io/Serializable" (some 0) with
  accessFlags := 1537
  interfaces := #[]
  cf := some (fileOf pool4 1 #[] #[] 1537 3 #[] #[])
  fields := #[]
  methods := #[]
  instanceTypes := #[]
  staticTypes := #[]
  resolved := Array.replicate 7 none
  statics := none }

def pool5 : Array CpInfo := pool [(2, .class_ 4), (1, u "java/lang/Enum"), (0, u "name"), (0, u "Ljava/lang/String;"), (2, u "ordinal"), (0, u "I"), (1, .class_ 14), (1, u "java/lang/Object"), (4, u "hash"), (86, .class_ 108), (1, u "java/lang/Enum$EnumDesc"), (2, .class_ 112), (0, u "java/lang/constant/Constable"), (0, .class_ 114), (0, u "java/lang/Comparable"), (0, .class_ 116), (0, u "java/io/Serializable")] 87

/-- java/lang/Enum -/
def k5 : Class := { plain "java/lang/Enum" (some 0) with
  accessFlags := 1057
  interfaces := #[2, 3, 4]
  cf := some (fileOf pool5 2 #[.nestMembers #[106]] #[] 1057 12 #[111, 113, 115] #[{ accessFlags := 18, nameIndex := 5, descriptorIndex := 6, attributes := #[] }, { accessFlags := 18, nameIndex := 9, descriptorIndex := 10, attributes := #[] }, { accessFlags := 2, nameIndex := 19, descriptorIndex := 10, attributes := #[] }])
  fields := #[{ name := "name", type := (.object "java/lang/String"), accessFlags := 18, slot := 0, constantValue := 0 }, { name := "ordinal", type := .int, accessFlags := 18, slot := 1, constantValue := 0 }, { name := "hash", type := .int, accessFlags := 2, slot := 2, constantValue := 0 }]
  methods := #[]
  instanceTypes := #[(.object "java/lang/String"), .int, .int]
  staticTypes := #[]
  resolved := Array.replicate 204 none
  statics := none }

def pool6 : Array CpInfo := pool [(1, .class_ 2), (0, u "com/example/ulmus/ulmus/core/wire/OpCode"), (2, u "CREATE"), (0, u "Lcom/example/ulmus/ulmus/core/wire/OpCode;"), (2, u "DELETE"), (2, u "EXISTS"), (2, u "GET_DATA"), (2, u "SET_DATA"), (2, u "GET_ACL"), (2, u "SET_ACL"), (2, u "GET_CHILDREN"), (2, u "SYNC"), (2, u "PING"), (2, u "GET_CHILDREN2"), (2, u "CHECK"), (2, u "MULTI"), (2, u "CREATE2"), (2, u "AUTH"), (2, u "SET_WATCHES"), (2, u "CLOSE_SESSION"), (2, u "$VALUES"), (0, u "[Lcom/example/ulmus/ulmus/core/wire/OpCode;"), (6, .class_ 67), (1, u "java/lang/Enum"), (6, .fieldref 1 75), (0, .nameAndType 76 77), (0, u "type"), (0, u "I"), (2, u "changesTree"), (0, u "Z"), (0, .fieldref 1 83), (0, .nameAndType 84 58), (0, u "ALL"), (35, u "of"), (0, u "(I)Lcom/example/ulmus/ulmus/core/wire/OpCode;")] 6

def k6c0 : Code := { maxStack := 2, maxLocals := 5, code := prog_115_method_6_code, exceptionTable := #[], attributes := #[] }
def k6m0 : Method := { name := "of", desc := "(I)Lcom/example/ulmus/ulmus/core/wire/OpCode;", sig := { parameters := [.int], returnType := some (.object "com/example/ulmus/ulmus/core/wire/OpCode") }, accessFlags := 9, code := some k6c0 }
/-- com/example/ulmus/ulmus/core/wire/OpCode -/
def k6 : Class := { plain "com/example/ulmus/ulmus/core/wire/OpCode" (some 5) with
  accessFlags := 16433
  interfaces := #[]
  cf := some (fileOf pool6 1 #[] #[{ accessFlags := 9, nameIndex := 120, descriptorIndex := 121, attributes := #[] }] 16433 65 #[] #[{ accessFlags := 16409, nameIndex := 5, descriptorIndex := 6, attributes := #[] }, { accessFlags := 16409, nameIndex := 9, descriptorIndex := 6, attributes := #[] }, { accessFlags := 16409, nameIndex := 12, descriptorIndex := 6, attributes := #[] }, { accessFlags := 16409, nameIndex := 15, descriptorIndex := 6, attributes := #[] }, { accessFlags := 16409, nameIndex := 18, descriptorIndex := 6, attributes := #[] }, { accessFlags := 16409, nameIndex := 21, descriptorIndex := 6, attributes := #[] }, { accessFlags := 16409, nameIndex := 24, descriptorIndex := 6, attributes := #[] }, { accessFlags := 16409, nameIndex := 27, descriptorIndex := 6, attributes := #[] }, { accessFlags := 16409, nameIndex := 30, descriptorIndex := 6, attributes := #[] }, { accessFlags := 16409, nameIndex := 33, descriptorIndex := 6, attributes := #[] }, { accessFlags := 16409, nameIndex := 36, descriptorIndex := 6, attributes := #[] }, { accessFlags := 16409, nameIndex := 39, descriptorIndex := 6, attributes := #[] }, { accessFlags := 16409, nameIndex := 42, descriptorIndex := 6, attributes := #[] }, { accessFlags := 16409, nameIndex := 45, descriptorIndex := 6, attributes := #[] }, { accessFlags := 16409, nameIndex := 48, descriptorIndex := 6, attributes := #[] }, { accessFlags := 16409, nameIndex := 51, descriptorIndex := 6, attributes := #[] }, { accessFlags := 16409, nameIndex := 54, descriptorIndex := 6, attributes := #[] }, { accessFlags := 26, nameIndex := 84, descriptorIndex := 58, attributes := #[] }, { accessFlags := 18, nameIndex := 76, descriptorIndex := 77, attributes := #[] }, { accessFlags := 18, nameIndex := 80, descriptorIndex := 81, attributes := #[] }, { accessFlags := 4122, nameIndex := 57, descriptorIndex := 58, attributes := #[] }])
  fields := #[{ name := "CREATE", type := (.object "com/example/ulmus/ulmus/core/wire/OpCode"), accessFlags := 16409, slot := 0, constantValue := 0 }, { name := "DELETE", type := (.object "com/example/ulmus/ulmus/core/wire/OpCode"), accessFlags := 16409, slot := 1, constantValue := 0 }, { name := "EXISTS", type := (.object "com/example/ulmus/ulmus/core/wire/OpCode"), accessFlags := 16409, slot := 2, constantValue := 0 }, { name := "GET_DATA", type := (.object "com/example/ulmus/ulmus/core/wire/OpCode"), accessFlags := 16409, slot := 3, constantValue := 0 }, { name := "SET_DATA", type := (.object "com/example/ulmus/ulmus/core/wire/OpCode"), accessFlags := 16409, slot := 4, constantValue := 0 }, { name := "GET_ACL", type := (.object "com/example/ulmus/ulmus/core/wire/OpCode"), accessFlags := 16409, slot := 5, constantValue := 0 }, { name := "SET_ACL", type := (.object "com/example/ulmus/ulmus/core/wire/OpCode"), accessFlags := 16409, slot := 6, constantValue := 0 }, { name := "GET_CHILDREN", type := (.object "com/example/ulmus/ulmus/core/wire/OpCode"), accessFlags := 16409, slot := 7, constantValue := 0 }, { name := "SYNC", type := (.object "com/example/ulmus/ulmus/core/wire/OpCode"), accessFlags := 16409, slot := 8, constantValue := 0 }, { name := "PING", type := (.object "com/example/ulmus/ulmus/core/wire/OpCode"), accessFlags := 16409, slot := 9, constantValue := 0 }, { name := "GET_CHILDREN2", type := (.object "com/example/ulmus/ulmus/core/wire/OpCode"), accessFlags := 16409, slot := 10, constantValue := 0 }, { name := "CHECK", type := (.object "com/example/ulmus/ulmus/core/wire/OpCode"), accessFlags := 16409, slot := 11, constantValue := 0 }, { name := "MULTI", type := (.object "com/example/ulmus/ulmus/core/wire/OpCode"), accessFlags := 16409, slot := 12, constantValue := 0 }, { name := "CREATE2", type := (.object "com/example/ulmus/ulmus/core/wire/OpCode"), accessFlags := 16409, slot := 13, constantValue := 0 }, { name := "AUTH", type := (.object "com/example/ulmus/ulmus/core/wire/OpCode"), accessFlags := 16409, slot := 14, constantValue := 0 }, { name := "SET_WATCHES", type := (.object "com/example/ulmus/ulmus/core/wire/OpCode"), accessFlags := 16409, slot := 15, constantValue := 0 }, { name := "CLOSE_SESSION", type := (.object "com/example/ulmus/ulmus/core/wire/OpCode"), accessFlags := 16409, slot := 16, constantValue := 0 }, { name := "ALL", type := (.array (.object "com/example/ulmus/ulmus/core/wire/OpCode")), accessFlags := 26, slot := 17, constantValue := 0 }, { name := "type", type := .int, accessFlags := 18, slot := 3, constantValue := 0 }, { name := "changesTree", type := .boolean, accessFlags := 18, slot := 4, constantValue := 0 }, { name := "$VALUES", type := (.array (.object "com/example/ulmus/ulmus/core/wire/OpCode")), accessFlags := 4122, slot := 18, constantValue := 0 }]
  methods := #[k6m0]
  instanceTypes := #[(.object "java/lang/String"), .int, .int, .int, .boolean]
  staticTypes := #[(.object "com/example/ulmus/ulmus/core/wire/OpCode"), (.object "com/example/ulmus/ulmus/core/wire/OpCode"), (.object "com/example/ulmus/ulmus/core/wire/OpCode"), (.object "com/example/ulmus/ulmus/core/wire/OpCode"), (.object "com/example/ulmus/ulmus/core/wire/OpCode"), (.object "com/example/ulmus/ulmus/core/wire/OpCode"), (.object "com/example/ulmus/ulmus/core/wire/OpCode"), (.object "com/example/ulmus/ulmus/core/wire/OpCode"), (.object "com/example/ulmus/ulmus/core/wire/OpCode"), (.object "com/example/ulmus/ulmus/core/wire/OpCode"), (.object "com/example/ulmus/ulmus/core/wire/OpCode"), (.object "com/example/ulmus/ulmus/core/wire/OpCode"), (.object "com/example/ulmus/ulmus/core/wire/OpCode"), (.object "com/example/ulmus/ulmus/core/wire/OpCode"), (.object "com/example/ulmus/ulmus/core/wire/OpCode"), (.object "com/example/ulmus/ulmus/core/wire/OpCode"), (.object "com/example/ulmus/ulmus/core/wire/OpCode"), (.array (.object "com/example/ulmus/ulmus/core/wire/OpCode")), (.array (.object "com/example/ulmus/ulmus/core/wire/OpCode"))]
  resolved := Array.replicate 128 none
  statics := some 0 }

def pool7 : Array CpInfo := pool [(1, u "java/lang/Cloneable"), (0, .class_ 1), (0, u "java/lang/Object"), (0, .class_ 3)] 3

/-- java/lang/Cloneable -/
def k7 : Class := { plain "java/lang/Cloneable" (some 0) with
  accessFlags := 1537
  interfaces := #[]
  cf := some (fileOf pool7 2 #[] #[] 1537 4 #[] #[])
  fields := #[]
  methods := #[]
  instanceTypes := #[]
  staticTypes := #[]
  resolved := Array.replicate 8 none
  statics := none }

/-- the primitive byte -/
def k8 : Class := { plain "byte" none with kind := .primitive 'B', accessFlags := 0x411 }
/-- [B -/
def k9 : Class := { plain "[B" (some 0) with kind := .array 8 .byte, interfaces := #[7, 4], accessFlags := 1041 }

/-- the primitive int -/
def k10 : Class := { plain "int" none with kind := .primitive 'I', accessFlags := 0x411 }
/-- [I -/
def k11 : Class := { plain "[I" (some 0) with kind := .array 10 .int, interfaces := #[7, 4], accessFlags := 1041 }

/-- [Lcom/example/ulmus/ulmus/core/wire/OpCode; -/
def k12 : Class := { plain "[Lcom/example/ulmus/ulmus/core/wire/OpCode;" (some 0) with kind := .array 6 (.object "com/example/ulmus/ulmus/core/wire/OpCode"), interfaces := #[7, 4], accessFlags := 1041 }

def heap : Heap := #[{ cls := 6, slots := #[.ref 2, .ref 3, .ref 4, .ref 5, .ref 6, .ref 7, .ref 8, .ref 9, .ref 10, .ref 11, .ref 12, .ref 13, .ref 14, .ref 15, .ref 16, .ref 17, .ref 18, .ref 1, .null], vm := .statics 6 },
  { cls := 12, slots := #[.ref 2, .ref 3, .ref 4, .ref 5, .ref 6, .ref 7, .ref 8, .ref 9, .ref 10, .ref 11, .ref 12, .ref 13, .ref 14, .ref 15, .ref 16, .ref 17, .ref 18], vm := .none },
  { cls := 6, slots := #[.null, .int 0, .int 0, .int 1, .int 0], vm := .none },
  { cls := 6, slots := #[.null, .int 1, .int 0, .int 2, .int 0], vm := .none },
  { cls := 6, slots := #[.null, .int 2, .int 0, .int 3, .int 0], vm := .none },
  { cls := 6, slots := #[.null, .int 3, .int 0, .int 4, .int 0], vm := .none },
  { cls := 6, slots := #[.null, .int 4, .int 0, .int 5, .int 0], vm := .none },
  { cls := 6, slots := #[.null, .int 5, .int 0, .int 6, .int 0], vm := .none },
  { cls := 6, slots := #[.null, .int 6, .int 0, .int 7, .int 0], vm := .none },
  { cls := 6, slots := #[.null, .int 7, .int 0, .int 8, .int 0], vm := .none },
  { cls := 6, slots := #[.null, .int 8, .int 0, .int 9, .int 0], vm := .none },
  { cls := 6, slots := #[.null, .int 9, .int 0, .int 11, .int 0], vm := .none },
  { cls := 6, slots := #[.null, .int 10, .int 0, .int 12, .int 0], vm := .none },
  { cls := 6, slots := #[.null, .int 11, .int 0, .int 13, .int 0], vm := .none },
  { cls := 6, slots := #[.null, .int 12, .int 0, .int 14, .int 0], vm := .none },
  { cls := 6, slots := #[.null, .int 13, .int 0, .int 15, .int 0], vm := .none },
  { cls := 6, slots := #[.null, .int 14, .int 0, .int 100, .int 0], vm := .none },
  { cls := 6, slots := #[.null, .int 15, .int 0, .int 101, .int 0], vm := .none },
  { cls := 6, slots := #[.null, .int 16, .int 0, .int (-11), .int 0], vm := .none }]
def classes : Array Class := #[k0, k1, k2, k3, k4, k5, k6, k7, k8, k9, k10, k11, k12]
def interned : List (Array UInt16 × Addr) := []
def slotsUsed : Nat := 121
def theMethod : MethodId := ⟨1, 1⟩
def args0 : Array Value := #[.int 5, .int 3]
def aboutOver (below : List Frame) : State where
  vm := { classes := classes, interned := interned.toArray }
  heap := heap
  slotsUsed := slotsUsed
  threads := #[{ frames := .invoking theMethod args0 :: below }]
def below0 : List Frame := [.native { method := ⟨0, 0⟩, args := #[] }]
def about1 : State := aboutOver below0
def p0 : Program := .bare "" "" ""
def e0 : Env := launch0.env 0 0 0
theorem w_frames : about1.frames = Frame.invoking theMethod args0 :: below0 := rfl
set_option maxRecDepth 65536 in
theorem w_args : argsFit about1.vm theMethod args0 = true := by decide +kernel
set_option maxRecDepth 65536 in
theorem w_heap : heapFits about1 = true := by decide +kernel
set_option maxRecDepth 65536 in
theorem w_runnable : about1.curStatus? = some .runnable := by decide +kernel
set_option maxRecDepth 65536 in
theorem w_alone : about1.alone = true := by decide +kernel
set_option maxRecDepth 65536 in
theorem w_named : about1.methodNamed? x = some theMethod := by decide +kernel
set_option maxRecDepth 65536 in
theorem w_hears : about1.hears theMethod below0 = true := by decide +kernel
set_option maxRecDepth 65536 in
theorem w_ripe : about1.ripe theMethod args0 below0 = true := by decide +kernel
theorem w_running : about1.status = .running := rfl
set_option maxRecDepth 65536 in
theorem w_room : about1.hasRoom e0.platform room_1 = true :=
  launch0.hasRoom_least _ room_1 (by decide +kernel) (by decide +kernel) (by decide +kernel) (by decide +kernel) (by decide +kernel) (by decide +kernel)
theorem allAtoms_all (ts : List Jvm.Cond) (a : Array Jvm.Value) (st : Jvm.State) : (allAtoms ts).before a st = ts.all (fun c => c.before a st) := by
  induction ts with
  | nil => rfl
  | cons c t ih =>
    show (Jvm.Cond.and c (allAtoms t)).before a st = _
    rw [Jvm.Cond.before_and, ih, List.all_cons]
def words1 : List Jvm.Cond := Jvm.Cond.code x code maxLocals ret :: tables_1
/-- a 'code' word, met by the world's own term for the bytes: nothing is compared byte by byte -/
theorem code_word {y : MethodName} {bytes : ByteArray} {mx : Nat} {rt : Option FieldType} {a : Array Value} {s : State} {m : MethodId} {meth : Method} {c : Code} (h1 : s.methodNamed? y = some m) (h2 : s.vm.method? m = some meth) (h3 : meth.code = some c) (h4 : c.code = bytes)
    (h5 : (c.maxLocals == mx && c.exceptionTable.isEmpty && decide (c.maxStack ≤ mostOperands) && decide (meth.sig.returnType = rt) && !meth.locks && decide (parseMethodDescriptor y.desc = some meth.sig)) = true) : (Jvm.Cond.code y bytes mx rt).before a s = true := by
  simp only [Bool.and_eq_true, beq_iff_eq, Bool.not_eq_true', decide_eq_true_eq] at h5
  obtain ⟨⟨⟨⟨⟨g1, g2⟩, g3⟩, g4⟩, g5⟩, g6⟩ := h5
  simp [Cond.before, Cond.holds, Cond.value, h1, h2, h3, h4, g1, g2, g3, g4, g5, g6]
def isCode : Jvm.Cond → Bool
  | .code _ _ _ _ => true
  | _ => false
theorem all_split {L : List Jvm.Cond} {P : Jvm.Cond → Bool} (h1 : L.all (fun c => isCode c || P c) = true) (h2 : ∀ c ∈ L.filter isCode, P c = true) : L.all P = true := by
  refine List.all_eq_true.mpr fun c hc => ?_
  have h := List.all_eq_true.mp h1 c hc
  rcases Bool.eq_false_or_eq_true (isCode c) with hi | hi
  · exact h2 c (List.mem_filter.mpr ⟨hc, hi⟩)
  · simpa [hi] using h
set_option maxRecDepth 65536 in
theorem w_c0 : (Jvm.Cond.code x code maxLocals ret).before args0 about1 = true := code_word (m := ⟨1, 1⟩) (meth := k1m1) (c := k1c1) (by decide +kernel) rfl rfl rfl (by decide +kernel)
set_option maxRecDepth 65536 in
theorem w_c1 : (Jvm.Cond.code ({ cls := "com/example/ulmus/ulmus/core/wire/OpCode", name := "of", desc := "(I)Lcom/example/ulmus/ulmus/core/wire/OpCode;" } : Jvm.MethodName) prog_115_method_6_code (5 : Nat) (Option.some (Jvm.ClassFile.FieldType.object "com/example/ulmus/ulmus/core/wire/OpCode"))).before args0 about1 = true := code_word (m := ⟨6, 0⟩) (meth := k6m0) (c := k6c0) (by decide +kernel) rfl rfl rfl (by decide +kernel)
set_option maxRecDepth 65536 in
theorem w_c2 : (Jvm.Cond.code ({ cls := "com/example/ulmus/ulmus/core/wire/OpCodeOfPinLaw", name := "expected", desc := "(I)Lcom/example/ulmus/ulmus/core/wire/OpCode;" } : Jvm.MethodName) method_3_code (1 : Nat) (Option.some (Jvm.ClassFile.FieldType.object "com/example/ulmus/ulmus/core/wire/OpCode"))).before args0 about1 = true := code_word (m := ⟨1, 2⟩) (meth := k1m2) (c := k1c2) (by decide +kernel) rfl rfl rfl (by decide +kernel)
def codes1 : List Jvm.Cond := [Jvm.Cond.code x code maxLocals ret, Jvm.Cond.code ({ cls := "com/example/ulmus/ulmus/core/wire/OpCode", name := "of", desc := "(I)Lcom/example/ulmus/ulmus/core/wire/OpCode;" } : Jvm.MethodName) prog_115_method_6_code (5 : Nat) (Option.some (Jvm.ClassFile.FieldType.object "com/example/ulmus/ulmus/core/wire/OpCode")), Jvm.Cond.code ({ cls := "com/example/ulmus/ulmus/core/wire/OpCodeOfPinLaw", name := "expected", desc := "(I)Lcom/example/ulmus/ulmus/core/wire/OpCode;" } : Jvm.MethodName) method_3_code (1 : Nat) (Option.some (Jvm.ClassFile.FieldType.object "com/example/ulmus/ulmus/core/wire/OpCode"))]
set_option maxRecDepth 65536 in
theorem codes_eq : words1.filter isCode = codes1 := rfl
theorem w_codes : ∀ c ∈ words1.filter isCode, c.before args0 about1 = true := by
  rw [codes_eq]
  intro c hc
  simp only [codes1, List.mem_cons, List.not_mem_nil, or_false] at hc
  rcases hc with rfl | rfl | rfl
  · exact w_c0
  · exact w_c1
  · exact w_c2
set_option maxRecDepth 65536 in
theorem w_t1 : (words1.take 24).all (fun c => isCode c || c.before args0 about1) = true := by decide +kernel
set_option maxRecDepth 65536 in
theorem w_t2 : (words1.drop 24).all (fun c => isCode c || c.before args0 about1) = true := by decide +kernel
theorem w_tables : (allAtoms (Jvm.Cond.code x code maxLocals ret :: tables_1)).before args0 about1 = true := by
  rw [allAtoms_all]
  show words1.all (fun c => c.before args0 about1) = true
  refine all_split ?_ w_codes
  rw [← List.take_append_drop 24 words1, List.all_append, w_t1, w_t2]
  rfl
set_option maxRecDepth 65536 in
theorem w_case : (Jvm.Cond.and given_1 narrow_1).before args0 about1 = true := by decide +kernel
theorem w_applies : (headSpec (Jvm.Cond.code x code maxLocals ret :: tables_1) room_1).applies x e0.platform about1 = true :=
  (Spec.applies_iff w_frames).mpr ⟨w_running, w_runnable, w_alone, w_named, w_hears, w_ripe, w_room, w_tables⟩
theorem atStart : AtStart classFile x code maxLocals ret World_1 tables_1 room_1 Calls_1 rest_1 Pre_1 launch0 p0 e0 about1 theMethod args0 below0 :=
  ⟨lists_1, trivial, launch0.admits_env _ _ _, launch0.least_env, fairChoices_fair.cas, fairChoices_fair.clock, w_frames, w_args, w_heap, w_applies, trivial, trivial, w_case⟩
end start1
theorem witness_1 : WitnessClaimed_1 := ⟨start1.p0, start1.e0, start1.about1, start1.theMethod, start1.args0, start1.below0, start1.atStart⟩
end Jvm.Pilot.@@N@@
