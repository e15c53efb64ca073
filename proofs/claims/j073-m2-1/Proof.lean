import JvmDerived
import JvmDerived.Pilot.@@N@@Statement
import JvmDerived.Pilot.@@N@@Code
set_option linter.unusedVariables false
set_option linter.unusedSimpArgs false
namespace Jvm.RoadKit
open Sem ClassFile Op Lib Jvm.Stand Jvm.Free Jvm.LawKit
section New
variable {p : Program} {l : Launch} {e : Env} {R : Room} {s : State} {m : MethodId} {args : Array Value} {below : List Frame} {meth : Method} {c : Code} {T : State} {locs : List Loc} {cells slots : Nat}
theorem retI (X : Stand p l e R s m args below meth c T locs cells slots) (hx : p.tables.exec = Jvm.exec) {pc : Nat} {Ls : Array Slot} {z : Int32} {rest : List Value} (hret : meth.sig.returnType = some .int) (hd : decode c.code pc = .ok (.ireturn, 1)) {fs : List Frame}
    (hl : ∀ (f : JFrame) (acts : List Action), f.method = m → f.locked = none → f.entered = [] → (doReturn e (T.setTop f) acts (some (.int z))).1 = T.setFrames fs) : Steps p.tables e below (T.setTop (mkF m pc Ls (.int z :: rest))) (T.setFrames fs) := by
  have hm' : T.vm.method? m = some meth := X.method'
  have hn : narrow .int (.int z) = .int z := rfl
  show Steps p.tables e below (T.setTop { method := m, pc := pc, locals := Ls, stack := _ :: rest, locked := none }) _
  jvm_step X.here [X.here.top, hx, hd, hm', hret, hn]
  first | (intro acts; rw [hl _ acts rfl rfl rfl]) | rw [hl _ _ rfl rfl rfl]
  exact Steps.refl _
end New
end Jvm.RoadKit
namespace Jvm.Pilot.@@N@@
open Jvm Jvm.ClassFile Sem Op Lib Jvm.Free Jvm.Stand Jvm.LawKit Jvm.RoadKit Bundle Jvm.Pilot.@@N@@.Jvm.D
theorem own_w1 {v : Value} (h : v.isRef = true) : 2 * 0 + ([v].map fun v => v.category).sum ≤ 1 := by
  rcases ref_cases h with rfl | ⟨a, rfl⟩ <;> exact Nat.le_refl _
theorem own_side0 {h0 : Heap} {ws : List Addr} : ∀ x ∈ ([] : List Addr), x ∈ ws ∨ h0.size ≤ x := fun _ q => nomatch q
theorem own_side1 {h0 : Heap} {ws : List Addr} {a : Addr} (h : a ∈ ws ∨ h0.size ≤ a) : ∀ x ∈ [a], x ∈ ws ∨ h0.size ≤ x := fun x q => by
  cases List.mem_singleton.mp q; exact h
theorem own_side2 {h0 : Heap} {ws : List Addr} {a b : Addr} (h : a ∈ ws ∨ h0.size ≤ a) (h' : b ∈ ws ∨ h0.size ≤ b) : ∀ x ∈ [a, b], x ∈ ws ∨ h0.size ≤ x := fun x q => by
  rcases List.mem_cons.mp q with rfl | q
  · exact h
  · exact own_side1 h' x q
theorem own_side3 {h0 : Heap} {ws : List Addr} {a b d : Addr} (h : a ∈ ws ∨ h0.size ≤ a) (h' : b ∈ ws ∨ h0.size ≤ b) (h'' : d ∈ ws ∨ h0.size ≤ d) : ∀ x ∈ [a, b, d], x ∈ ws ∨ h0.size ≤ x := fun x q => by
  rcases List.mem_cons.mp q with rfl | q
  · exact h
  · exact own_side2 h' h'' x q
theorem own_notin1 {x a : Addr} (h : x ≠ a) : x ∉ [a] := fun q => h (List.mem_singleton.mp q)
theorem own_notin2 {x a b : Addr} (h : x ≠ a) (h' : x ≠ b) : x ∉ [a, b] := fun q => by
  rcases List.mem_cons.mp q with q | q
  · exact h q
  · exact own_notin1 h' q
theorem own_notin3 {x a b d : Addr} (h : x ≠ a) (h' : x ≠ b) (h'' : x ≠ d) : x ∉ [a, b, d] := fun q => by
  rcases List.mem_cons.mp q with q | q
  · exact h q
  · exact own_notin2 h' h'' q
theorem own_eqInt {a : Term} {k : Int32} {args : Array Value} {first s : State} {o : Option Outcome} {idx : List Nat} (h : (Jvm.Cond.eq a (Term.int k)).value args first o s idx = some true) : a.eval args first o idx s = some (.int k) := by
  simp only [Cond.value, Term.eval] at h
  cases ht : a.eval args first o idx s with
  | none => simp [ht] at h
  | some x => cases x <;> simp [ht] at h ⊢; exact h
theorem own_enum {Z : State} {args : Array Value} {C f d : String} {k : Int32} (hE : (Jvm.Cond.exactly (Term.static C f d) C).value args Z none Z [] = some true) (hO : (Jvm.Cond.eq (Term.field (Term.static C f d) "java/lang/Enum" "ordinal" "I") (Term.int k)).value args Z none Z [] = some true)
    (hi : (Jvm.Cond.initialized C).before args Z = true) (hl : (Jvm.Cond.laysStatic C f d).before args Z = true) : ∃ a, Sta Z Z.heap C f d (.ref a) ∧ Exa Z Z.heap a C ∧ Fld Z Z.heap a "java/lang/Enum" "ordinal" "I" (.int k) := by
  obtain ⟨a, ev⟩ := exa_v hE
  exact ⟨a, Sta.start ev (Or.inr ⟨hi, hl⟩), Exa.start ev hE, Fld.start ((fld_at ev).symm.trans (own_eqInt hO))⟩
theorem own_sta_keep {Z : State} {h h' : Heap} {C n d : String} {v : Value} (F : Sta Z h C n d v) (K : Keep h h' []) : Sta Z h' C n d v := by
  obtain ⟨cf, i, k, f, st, cell, h1, h2, h3, h4, h5, r⟩ := F
  exact ⟨cf, i, k, f, st, cell, h1, h2, h3, h4, K.2.1 _ _ h5 (fun q => nomatch q), r⟩
theorem own_eqRef {a b : Term} {y : Addr} {args : Array Value} {first s : State} {o : Option Outcome} {idx : List Nat} (h : (Jvm.Cond.eq a b).value args first o s idx = some true) (hb : b.eval args first o idx s = some (.ref y)) : a.eval args first o idx s = some (.ref y) := by
  simp only [Cond.value, hb] at h
  cases ht : a.eval args first o idx s with
  | none => simp [ht] at h
  | some x => cases x <;> simp [ht] at h ⊢; exact h
theorem own_arr {Z : State} {args : Array Value} {t : Term} {ty : FieldType} {n : Int32} (hA : (Jvm.Cond.arrayOf t ty).value args Z none Z [] = some true) (hL : (Jvm.Cond.eq (Term.length t) (Term.int n)).value args Z none Z [] = some true) :
    ∃ a cl, t.eval args Z none [] Z = some (.ref a) ∧ Arr Z Z.heap a cl ty ∧ cl.slots.size < 2 ^ 31 ∧ cl.slots.size.toInt32 = n := by
  obtain ⟨a, ev⟩ := arr_v hA
  obtain ⟨cl, A⟩ := Arr.start ev hA
  obtain ⟨b, cell, e1, e2, e3⟩ := Term.length_spec (own_eqInt hL)
  cases ev.symm.trans e1
  cases (Arr.fin (Vm.Alike.refl _) A).symm.trans e2
  have e4 : cl.slots.size < 2 ^ 31 := by
    have h := own_eqInt hL
    simp only [Term.eval, ev, Option.bind_eq_bind, Option.bind_some] at h
    by_cases hq : cl.slots.size < 2 ^ 31
    · exact hq
    · simp [e2, hq] at h
  exact ⟨a, cl, ev, A, e4, (Value.int.inj e3).symm⟩
theorem own_elem {Z : State} {args : Array Value} {t u : Term} {ty : FieldType} {a y : Addr} {cl : Cell} {j : Int32} (ev : t.eval args Z none [] Z = some (.ref a)) (A : Arr Z Z.heap a cl ty) (hE : (Jvm.Cond.eq (Term.elem t (Term.int j)) u).value args Z none Z [] = some true) (hu : u.eval args Z none [] Z = some (.ref y)) (hj : ¬ j < 0) :
    cl.slots[j.toNatClampNeg]? = some (.ref y) :=
  (elem_f ev (Term.int_eval j) (Arr.fin (Vm.Alike.refl _) A) hj).symm.trans (own_eqRef hE hu)
def ofV (k : Int32) (u0 u1 u2 u3 u4 u5 u6 u7 u8 u9 u10 u11 : Addr) : Value := if (1 : Int32) = k then .ref u0 else if (2 : Int32) = k then .ref u1 else if (3 : Int32) = k then .ref u2 else if (4 : Int32) = k then .ref u3 else if (5 : Int32) = k then .ref u4 else if (6 : Int32) = k then .ref u5 else if (7 : Int32) = k then .ref u6 else if (8 : Int32) = k then .ref u7 else if (9 : Int32) = k then .ref u8 else if (10 : Int32) = k then .ref u9 else if (11 : Int32) = k then .ref u10 else if (12 : Int32) = k then .ref u11 else .null
def exV (k : Int32) (u0 u1 u2 u3 u4 u5 u6 u7 u8 u9 u10 u11 : Addr) : Value := if k = (1 : Int32) then .ref u0 else if k = (2 : Int32) then .ref u1 else if k = (3 : Int32) then .ref u2 else if k = (4 : Int32) then .ref u3 else if k = (5 : Int32) then .ref u4 else if k = (6 : Int32) then .ref u5 else if k = (7 : Int32) then .ref u6 else if k = (8 : Int32) then .ref u7 else if k = (9 : Int32) then .ref u8 else if k = (10 : Int32) then .ref u9 else if k = (11 : Int32) then .ref u10 else if k = (12 : Int32) then .ref u11 else .null
theorem own_ite_ref {P : Prop} [Decidable P] {x y : Value} (hx : x.isRef = true) (hy : y.isRef = true) : (if P then x else y).isRef = true := by
  by_cases h : P
  · rw [if_pos h]; exact hx
  · rw [if_neg h]; exact hy
theorem own_ite_swap {a k : Int32} {x y y' : Value} (h : y = y') : (if a = k then x else y) = (if k = a then x else y') := by
  by_cases q : a = k
  · rw [if_pos q, if_pos q.symm]
  · rw [if_neg q, if_neg (fun z => q z.symm)]; exact h
theorem own_of_ex (k : Int32) (u0 u1 u2 u3 u4 u5 u6 u7 u8 u9 u10 u11 : Addr) : ofV k u0 u1 u2 u3 u4 u5 u6 u7 u8 u9 u10 u11 = exV k u0 u1 u2 u3 u4 u5 u6 u7 u8 u9 u10 u11 := own_ite_swap (own_ite_swap (own_ite_swap (own_ite_swap (own_ite_swap (own_ite_swap (own_ite_swap (own_ite_swap (own_ite_swap (own_ite_swap (own_ite_swap (own_ite_swap (rfl))))))))))))
theorem own_ex_ref (k : Int32) (u0 u1 u2 u3 u4 u5 u6 u7 u8 u9 u10 u11 : Addr) : (exV k u0 u1 u2 u3 u4 u5 u6 u7 u8 u9 u10 u11).isRef = true := own_ite_ref rfl (own_ite_ref rfl (own_ite_ref rfl (own_ite_ref rfl (own_ite_ref rfl (own_ite_ref rfl (own_ite_ref rfl (own_ite_ref rfl (own_ite_ref rfl (own_ite_ref rfl (own_ite_ref rfl (own_ite_ref rfl (rfl))))))))))))
theorem own_of_ref (k : Int32) (u0 u1 u2 u3 u4 u5 u6 u7 u8 u9 u10 u11 : Addr) : (ofV k u0 u1 u2 u3 u4 u5 u6 u7 u8 u9 u10 u11).isRef = true := own_ite_ref rfl (own_ite_ref rfl (own_ite_ref rfl (own_ite_ref rfl (own_ite_ref rfl (own_ite_ref rfl (own_ite_ref rfl (own_ite_ref rfl (own_ite_ref rfl (own_ite_ref rfl (own_ite_ref rfl (own_ite_ref rfl (rfl))))))))))))
theorem d2_0 : decode prog_46_method_1_code 0 = .ok (.getstatic 40, 3) := by decide +kernel
theorem d2_3 : decode prog_46_method_1_code 3 = .ok (.invokevirtual 44, 3) := by decide +kernel
theorem d2_6 : decode prog_46_method_1_code 6 = .ok (.checkcast 45, 3) := by decide +kernel
theorem d2_9 : decode prog_46_method_1_code 9 = .ok (.areturn, 1) := by decide +kernel
theorem pn_0 : plainName "com/example/heartwood/heartwood/store/PropertyType" = true := by first | (simp [plainName, overriddenIn]; done) | decide +kernel
theorem ef_2 (m : MethodId)  : entryFrame m #[] 0 = mkF m 0 #[] [] := by first | (simp [entryFrame, mkF, argsToLocals, Value.category]; done) | rfl
def Q2 (Z : State) (kV : ClassId) (u0 u1 u2 u3 u4 u5 u6 u7 u8 u9 u10 u11 : Addr) (h0 : Heap) (n0 : Nat) (v : Option Value) (h : Heap) (L : List Loc) : Prop := ∃ b, v = some (.ref b) ∧ Fr n0 L ∧ Keep h0 h [] ∧ h0.size ≤ b ∧ Arv Z h b kV (.object "com/example/heartwood/heartwood/store/PropertyType") (12 : Int32) [(.ref u0), (.ref u1), (.ref u2), (.ref u3), (.ref u4), (.ref u5), (.ref u6), (.ref u7), (.ref u8), (.ref u9), (.ref u10), (.ref u11)] .null
set_option maxRecDepth 65536 in
set_option maxHeartbeats 40000000 in
theorem rm2 (l : Launch) (Z : State) (a0 : Array Value) (hw : ∀ d ∈ tables_1, d.before a0 Z = true) (ws : List Jvm.Cond) (bV : Addr) (kV : ClassId) (u0 u1 u2 u3 u4 u5 u6 u7 u8 u9 u10 u11 : Addr) (h0 : Heap) (n0 : Nat) (Z0 : n0 ≤ h0.size) (SV : Sta Z h0 "com/example/heartwood/heartwood/store/PropertyType" "$VALUES" "[Lcom/example/heartwood/heartwood/store/PropertyType;" (.ref bV)) (EV : Exa Z h0 bV "[Lcom/example/heartwood/heartwood/store/PropertyType;") (AV : Arv Z h0 bV kV (.object "com/example/heartwood/heartwood/store/PropertyType") (12 : Int32) [(.ref u0), (.ref u1), (.ref u2), (.ref u3), (.ref u4), (.ref u5), (.ref u6), (.ref u7), (.ref u8), (.ref u9), (.ref u10), (.ref u11)] .null) :
    MetFree l (⟨"com/example/heartwood/heartwood/store/PropertyType", "values", "()[Lcom/example/heartwood/heartwood/store/PropertyType;"⟩ : MethodName) (head1 (Jvm.Cond.code (⟨"com/example/heartwood/heartwood/store/PropertyType", "values", "()[Lcom/example/heartwood/heartwood/store/PropertyType;"⟩ : MethodName) prog_46_method_1_code 0 (some (.array (.object "com/example/heartwood/heartwood/store/PropertyType"))) :: ws) ({ frames := 1, cells := 1, slots := 12, locals := 14 } : Room)) (fun a U => a = #[] ∧ Z.Warmed39 U.vm ∧ U.heap = h0) (fun _ _ _ _ _ => True) (fun _ U o U' => ∃ v L, o = .returned v ∧ Q2 Z kV u0 u1 u2 u3 u4 u5 u6 u7 u8 u9 u10 u11 h0 n0 v U'.heap L ∧ FrameEnd U o U' L ({ frames := 1, cells := 1, slots := 12, locals := 14 } : Room).cells ({ frames := 1, cells := 1, slots := 12, locals := 14 } : Room).slots) := by
  refine MetFree.of_bodySF (plainFor_of_name pn_0) hisR ?_
  intro p e s m args below meth c s₁ Bd hml0 hP hK
  obtain ⟨rfl, hZ, hh⟩ := hP
  have hx := Bd.exec
  have hby := Bd.bytes
  have hml : c.maxLocals = 0 := hml0
  have hown : s.vm.findClass "com/example/heartwood/heartwood/store/PropertyType" = some m.cls := findClass_of_methodNamed Bd.named
  have hnm := (name_of_methodNamed Bd.named Bd.method).1
  have X0 : Stand p l e ({ frames := 1, cells := 1, slots := 12, locals := 14 } : Room) s m #[] below meth c s₁ [] 0 0 := Stand.of_body Bd
  have e0 : s₁.heap = h0 := by rw [← hh, Bd.state]; rfl
  have N0 := Fr.nil n0
  have pre0 : ∀ t, Steps p.tables e below (s₁.setTop (mkF m 0 #[] [])) t → Steps p.tables e below (s₁.setTop (entryFrame m #[] 0)) t := fun t k => castTop (ef_2 m ) k
  obtain ⟨T1, X1, e1, st1⟩ := getS2 X0 hx hZ hown (host := "") (Or.inl (hw _ (List.mem_of_getElem? (i := 7) rfl))) Via.refl e0 SV (g := (mkF m 0 #[] [])) rfl (hb hby d2_0)
  obtain ⟨T2, h2, X2, e2, E2, A2, Ex2, st2⟩ := cloneH X1 hx hZ hown (hw _ (List.mem_of_getElem? (i := 9) rfl)) (hw _ (List.mem_of_getElem? (i := 10) rfl)) (hw _ (List.mem_of_getElem? (i := 14) rfl)) (hw _ (List.mem_of_getElem? (i := 12) rfl)) (hw _ (List.mem_of_getElem? (i := 13) rfl)) (hw _ (List.mem_of_getElem? (i := 15) rfl)) e1 (Arv.arh AV) EV (g := (mkF m 3 #[] [(.ref bV)])) rfl (by rw [hml]; rfl) rfl (hb hby d2_3) (by decide) (W := 0) (cap := 12) (by show 2 * 0 + _ ≤ _; exact Nat.le_of_eq rfl) (by decide) (by decide) (by decide) (by decide)
  obtain ⟨b2, g2⟩ : ∃ z, z = h0.size := ⟨_, rfl⟩
  rw [← g2] at A2 Ex2 st2
  have g_b2 : n0 ≤ b2 := Nat.le_trans Z0 (Nat.le_of_eq g2.symm)
  have sz_b2 : h0.size ≤ b2 := Nat.le_trans (Keep.refl h0 []).1 (Nat.le_of_eq g2.symm)
  have ne_bV_b2 : bV ≠ b2 := Nat.ne_of_lt (Nat.lt_of_lt_of_le EV.lt (Nat.le_of_eq g2.symm))
  have K2 : Keep h0 h2 [] := Keep.ext (Keep.refl h0 []) E2
  have Z2 : n0 ≤ h2.size := Nat.le_trans Z0 K2.1
  have V_b2 : Arv Z h2 b2 kV (.object "com/example/heartwood/heartwood/store/PropertyType") (12 : Int32) [(.ref u0), (.ref u1), (.ref u2), (.ref u3), (.ref u4), (.ref u5), (.ref u6), (.ref u7), (.ref u8), (.ref u9), (.ref u10), (.ref u11)] .null := A2
  obtain ⟨T3, X3, e3, st3⟩ := castY X2 hx hZ hown (hw _ (List.mem_of_getElem? (i := 29) rfl)) e2 (Ins.self Ex2) (g := (mkF m 6 #[] [(.ref b2)])) rfl rfl (hb hby d2_6)
  obtain ⟨fs, hr, hrun, hended, hW, hsame⟩ := X3.leave (v := some (.ref b2)) (fun h => by rw [Bd.returns] at h; cases h)
  refine ⟨_, _, pre0 _ ?_, hrun, hended, _, _, rfl, ?_, ⟨_, rfl⟩, hW, hsame.mono (by decide) (by decide)⟩
  · show Steps p.tables e below (s₁.setTop (mkF m 0 #[] [])) _
    refine st1 _ ?_
    show Steps p.tables e below (T1.setTop (mkF m 3 #[] [(.ref bV)])) _
    refine st2 _ ?_
    show Steps p.tables e below (T2.setTop (mkF m 6 #[] [(.ref b2)])) _
    refine st3 _ ?_
    show Steps p.tables e below (T3.setTop (mkF m 9 #[] [(.ref b2)])) _
    jvm_step X3.here [X3.here.top, hx, (hb hby d2_9), X3.method', Bd.returns, Value.isRef, FieldType.isReference]
    first | (intro acts; rw [hr _ acts rfl rfl rfl]) | rw [hr _ _ rfl rfl rfl]
    exact Steps.refl _
  · show Q2 Z kV u0 u1 u2 u3 u4 u5 u6 u7 u8 u9 u10 u11 h0 n0 _ T3.heap _
    rw [e3]
    exact ⟨b2, rfl, N0, K2, sz_b2, V_b2⟩
theorem d1_0 : decode prog_46_method_5_code 0 = .ok (.invokestatic 73, 3) := by decide +kernel
theorem d1_3 : decode prog_46_method_5_code 3 = .ok (.astore_n 1, 1) := by decide +kernel
theorem d1_4 : decode prog_46_method_5_code 4 = .ok (.aload_n 1, 1) := by decide +kernel
theorem d1_5 : decode prog_46_method_5_code 5 = .ok (.arraylength, 1) := by decide +kernel
theorem d1_6 : decode prog_46_method_5_code 6 = .ok (.istore_n 2, 1) := by decide +kernel
theorem d1_7 : decode prog_46_method_5_code 7 = .ok (.iconst 0, 1) := by decide +kernel
theorem d1_8 : decode prog_46_method_5_code 8 = .ok (.istore_n 3, 1) := by decide +kernel
theorem d1_9 : decode prog_46_method_5_code 9 = .ok (.iload_n 3, 1) := by decide +kernel
theorem d1_10 : decode prog_46_method_5_code 10 = .ok (.iload_n 2, 1) := by decide +kernel
theorem d1_11 : decode prog_46_method_5_code 11 = .ok (.if_icmp .ge 26, 3) := by decide +kernel
theorem d1_14 : decode prog_46_method_5_code 14 = .ok (.aload_n 1, 1) := by decide +kernel
theorem d1_15 : decode prog_46_method_5_code 15 = .ok (.iload_n 3, 1) := by decide +kernel
theorem d1_16 : decode prog_46_method_5_code 16 = .ok (.aaload, 1) := by decide +kernel
theorem d1_17 : decode prog_46_method_5_code 17 = .ok (.astore 4, 2) := by decide +kernel
theorem d1_19 : decode prog_46_method_5_code 19 = .ok (.aload 4, 2) := by decide +kernel
theorem d1_21 : decode prog_46_method_5_code 21 = .ok (.getfield 59, 3) := by decide +kernel
theorem d1_24 : decode prog_46_method_5_code 24 = .ok (.iload_n 0, 1) := by decide +kernel
theorem d1_25 : decode prog_46_method_5_code 25 = .ok (.if_icmp .ne 6, 3) := by decide +kernel
theorem d1_28 : decode prog_46_method_5_code 28 = .ok (.aload 4, 2) := by decide +kernel
theorem d1_30 : decode prog_46_method_5_code 30 = .ok (.areturn, 1) := by decide +kernel
theorem d1_31 : decode prog_46_method_5_code 31 = .ok (.iinc 3 1, 3) := by decide +kernel
theorem d1_34 : decode prog_46_method_5_code 34 = .ok (.goto (-25), 3) := by decide +kernel
theorem d1_37 : decode prog_46_method_5_code 37 = .ok (.aconst_null, 1) := by decide +kernel
theorem d1_38 : decode prog_46_method_5_code 38 = .ok (.areturn, 1) := by decide +kernel
theorem pd_0 : parseMethodDescriptor "()[Lcom/example/heartwood/heartwood/store/PropertyType;" = some ⟨[], some (.array (.object "com/example/heartwood/heartwood/store/PropertyType"))⟩ := by decide +kernel
theorem ef_1 (m : MethodId) (p0 : Int32) : entryFrame m #[(.int p0)] 5 = mkF m 0 #[.val (.int p0), .unset, .unset, .unset, .unset] [] := by first | (simp [entryFrame, mkF, argsToLocals, Value.category]; done) | rfl
def Q1 (p0 : Int32) (u0 u1 u2 u3 u4 u5 u6 u7 u8 u9 u10 u11 : Addr) (h0 : Heap) (n0 : Nat) (v : Option Value) (h : Heap) (L : List Loc) : Prop := v = some (ofV p0 u0 u1 u2 u3 u4 u5 u6 u7 u8 u9 u10 u11) ∧ Fr n0 L ∧ Keep h0 h []
set_option maxRecDepth 65536 in
set_option maxHeartbeats 40000000 in
theorem rm1 (l : Launch) (Z : State) (a0 : Array Value) (hw : ∀ d ∈ tables_1, d.before a0 Z = true) (ws : List Jvm.Cond) (p0 : Int32) (bV : Addr) (kV : ClassId) (u0 u1 u2 u3 u4 u5 u6 u7 u8 u9 u10 u11 : Addr) (h0 : Heap) (n0 : Nat) (Z0 : n0 ≤ h0.size) (S0 : Sta Z h0 "com/example/heartwood/heartwood/store/PropertyType" "STRING" "Lcom/example/heartwood/heartwood/store/PropertyType;" (.ref u0)) (E0 : Exa Z h0 u0 "com/example/heartwood/heartwood/store/PropertyType") (F0 : Fld Z h0 u0 "com/example/heartwood/heartwood/store/PropertyType" "code" "I" (.int (1 : Int32))) (S1 : Sta Z h0 "com/example/heartwood/heartwood/store/PropertyType" "BINARY" "Lcom/example/heartwood/heartwood/store/PropertyType;" (.ref u1)) (E1 : Exa Z h0 u1 "com/example/heartwood/heartwood/store/PropertyType") (F1 : Fld Z h0 u1 "com/example/heartwood/heartwood/store/PropertyType" "code" "I" (.int (2 : Int32))) (S2 : Sta Z h0 "com/example/heartwood/heartwood/store/PropertyType" "LONG" "Lcom/example/heartwood/heartwood/store/PropertyType;" (.ref u2)) (E2 : Exa Z h0 u2 "com/example/heartwood/heartwood/store/PropertyType") (F2 : Fld Z h0 u2 "com/example/heartwood/heartwood/store/PropertyType" "code" "I" (.int (3 : Int32))) (S3 : Sta Z h0 "com/example/heartwood/heartwood/store/PropertyType" "DOUBLE" "Lcom/example/heartwood/heartwood/store/PropertyType;" (.ref u3)) (E3 : Exa Z h0 u3 "com/example/heartwood/heartwood/store/PropertyType") (F3 : Fld Z h0 u3 "com/example/heartwood/heartwood/store/PropertyType" "code" "I" (.int (4 : Int32))) (S4 : Sta Z h0 "com/example/heartwood/heartwood/store/PropertyType" "DATE" "Lcom/example/heartwood/heartwood/store/PropertyType;" (.ref u4)) (E4 : Exa Z h0 u4 "com/example/heartwood/heartwood/store/PropertyType") (F4 : Fld Z h0 u4 "com/example/heartwood/heartwood/store/PropertyType" "code" "I" (.int (5 : Int32))) (S5 : Sta Z h0 "com/example/heartwood/heartwood/store/PropertyType" "BOOLEAN" "Lcom/example/heartwood/heartwood/store/PropertyType;" (.ref u5)) (E5 : Exa Z h0 u5 "com/example/heartwood/heartwood/store/PropertyType") (F5 : Fld Z h0 u5 "com/example/heartwood/heartwood/store/PropertyType" "code" "I" (.int (6 : Int32))) (S6 : Sta Z h0 "com/example/heartwood/heartwood/store/PropertyType" "NAME" "Lcom/example/heartwood/heartwood/store/PropertyType;" (.ref u6)) (E6 : Exa Z h0 u6 "com/example/heartwood/heartwood/store/PropertyType") (F6 : Fld Z h0 u6 "com/example/heartwood/heartwood/store/PropertyType" "code" "I" (.int (7 : Int32))) (S7 : Sta Z h0 "com/example/heartwood/heartwood/store/PropertyType" "PATH" "Lcom/example/heartwood/heartwood/store/PropertyType;" (.ref u7)) (E7 : Exa Z h0 u7 "com/example/heartwood/heartwood/store/PropertyType") (F7 : Fld Z h0 u7 "com/example/heartwood/heartwood/store/PropertyType" "code" "I" (.int (8 : Int32))) (S8 : Sta Z h0 "com/example/heartwood/heartwood/store/PropertyType" "REFERENCE" "Lcom/example/heartwood/heartwood/store/PropertyType;" (.ref u8)) (E8 : Exa Z h0 u8 "com/example/heartwood/heartwood/store/PropertyType") (F8 : Fld Z h0 u8 "com/example/heartwood/heartwood/store/PropertyType" "code" "I" (.int (9 : Int32))) (S9 : Sta Z h0 "com/example/heartwood/heartwood/store/PropertyType" "WEAKREFERENCE" "Lcom/example/heartwood/heartwood/store/PropertyType;" (.ref u9)) (E9 : Exa Z h0 u9 "com/example/heartwood/heartwood/store/PropertyType") (F9 : Fld Z h0 u9 "com/example/heartwood/heartwood/store/PropertyType" "code" "I" (.int (10 : Int32))) (S10 : Sta Z h0 "com/example/heartwood/heartwood/store/PropertyType" "URI" "Lcom/example/heartwood/heartwood/store/PropertyType;" (.ref u10)) (E10 : Exa Z h0 u10 "com/example/heartwood/heartwood/store/PropertyType") (F10 : Fld Z h0 u10 "com/example/heartwood/heartwood/store/PropertyType" "code" "I" (.int (11 : Int32))) (S11 : Sta Z h0 "com/example/heartwood/heartwood/store/PropertyType" "DECIMAL" "Lcom/example/heartwood/heartwood/store/PropertyType;" (.ref u11)) (E11 : Exa Z h0 u11 "com/example/heartwood/heartwood/store/PropertyType") (F11 : Fld Z h0 u11 "com/example/heartwood/heartwood/store/PropertyType" "code" "I" (.int (12 : Int32))) (SV : Sta Z h0 "com/example/heartwood/heartwood/store/PropertyType" "$VALUES" "[Lcom/example/heartwood/heartwood/store/PropertyType;" (.ref bV)) (EV : Exa Z h0 bV "[Lcom/example/heartwood/heartwood/store/PropertyType;") (AV : Arv Z h0 bV kV (.object "com/example/heartwood/heartwood/store/PropertyType") (12 : Int32) [(.ref u0), (.ref u1), (.ref u2), (.ref u3), (.ref u4), (.ref u5), (.ref u6), (.ref u7), (.ref u8), (.ref u9), (.ref u10), (.ref u11)] .null) :
    MetFree l (⟨"com/example/heartwood/heartwood/store/PropertyType", "of", "(I)Lcom/example/heartwood/heartwood/store/PropertyType;"⟩ : MethodName) (head1 (Jvm.Cond.code (⟨"com/example/heartwood/heartwood/store/PropertyType", "of", "(I)Lcom/example/heartwood/heartwood/store/PropertyType;"⟩ : MethodName) prog_46_method_5_code 5 (some (.object "com/example/heartwood/heartwood/store/PropertyType")) :: ws) ({ frames := 2, cells := 1, slots := 12, locals := 25 } : Room)) (fun a U => a = #[(.int p0)] ∧ Z.Warmed39 U.vm ∧ U.heap = h0) (fun _ _ _ _ _ => True) (fun _ U o U' => ∃ v L, o = .returned v ∧ Q1 p0 u0 u1 u2 u3 u4 u5 u6 u7 u8 u9 u10 u11 h0 n0 v U'.heap L ∧ FrameEnd U o U' L ({ frames := 2, cells := 1, slots := 12, locals := 25 } : Room).cells ({ frames := 2, cells := 1, slots := 12, locals := 25 } : Room).slots) := by
  refine MetFree.of_bodySF (plainFor_of_name pn_0) hisR ?_
  intro p e s m args below meth c s₁ Bd hml0 hP hK
  obtain ⟨rfl, hZ, hh⟩ := hP
  have hx := Bd.exec
  have hby := Bd.bytes
  have hml : c.maxLocals = 5 := hml0
  have hown : s.vm.findClass "com/example/heartwood/heartwood/store/PropertyType" = some m.cls := findClass_of_methodNamed Bd.named
  have hnm := (name_of_methodNamed Bd.named Bd.method).1
  have X0 : Stand p l e ({ frames := 2, cells := 1, slots := 12, locals := 25 } : Room) s m #[(.int p0)] below meth c s₁ [] 0 0 := Stand.of_body Bd
  have e0 : s₁.heap = h0 := by rw [← hh, Bd.state]; rfl
  have N0 := Fr.nil n0
  have pre0 : ∀ t, Steps p.tables e below (s₁.setTop (mkF m 0 #[.val (.int p0), .unset, .unset, .unset, .unset] [])) t → Steps p.tables e below (s₁.setTop (entryFrame m #[(.int p0)] 5)) t := fun t k => castTop (ef_1 m p0) k
  obtain ⟨_, _, ⟨T1, L1, k1, n1⟩, -, X1, ⟨Lc1, hQ1, l1, y1, z1⟩, st1⟩ := Jvm.LawKit.callS X0 hx (y := (⟨"com/example/heartwood/heartwood/store/PropertyType", "values", "()[Lcom/example/heartwood/heartwood/store/PropertyType;"⟩ : MethodName)) hown (mvT hZ (hw _ (List.mem_of_getElem? (i := 4) rfl))) (mvT hZ (hw _ (List.mem_of_getElem? (i := 5) rfl))) (mvT hZ (hw _ (List.mem_of_getElem? (i := 2) rfl))) (mvT hZ (hw _ (List.mem_of_getElem? (i := 6) rfl))) (by decide) (backOf (W := 0) (rm2 l Z a0 hw [] bV kV u0 u1 u2 u3 u4 u5 u6 u7 u8 u9 u10 u11 h0 n0 Z0 SV EV AV) hZ (hw _ (List.mem_of_getElem? (i := 6) rfl)) (hw _ (List.mem_of_getElem? (i := 2) rfl)) (by decide) (by decide)) (g := (mkF m 0 #[.val (.int p0), .unset, .unset, .unset, .unset] [])) rfl (by rw [hml]; rfl) (argsL := []) (rest := []) (lenOf pd_0 rfl) rfl (by show 2 * 0 + _ ≤ _; exact Nat.le_of_eq rfl) (hb hby d1_0) (fun _ _ => ⟨rfl, e0, (by decide : 0 + 1 ≤ _), (by decide : 0 + 12 ≤ _)⟩)
  dsimp only [Pt.U, Pt.locs, Pt.cells, Pt.slots] at X1 l1 y1 z1 st1 hQ1
  subst l1 y1 z1
  obtain ⟨bv1, rfl, N1q, K1, ge1, V1⟩ := hQ1
  have KK1 : Keep h0 T1.heap [] := Keep.trans (Keep.refl h0 []) K1 own_side0
  have Z1 : n0 ≤ T1.heap.size := Nat.le_trans Z0 KK1.1
  have N1 := Fr.app N0 N1q
  obtain ⟨cl2, Ar2, -, S2, Nn2, -, -⟩ := id V1
  obtain ⟨cl3, Ar3, -, S3, Nn3, Hh3, -⟩ := id V1
  have hin3 : ¬ ((0 : Int32) < 0 ∨ cl3.slots.size ≤ ((0 : Int32)).toNatClampNeg) := inb_of S3 ⟨by decide, by decide⟩
  have hat3 : cl3.slots[((0 : Int32)).toNatClampNeg]? = some (.ref u0) := Hh3.at hin3 rfl
  have f4 := (F0.keep K1 (by simp))
  obtain ⟨T5, X5, e5, st5⟩ := getF X1 hx hZ hown (host := "") (Or.inl (hw _ (List.mem_of_getElem? (i := 31) rfl))) Via.refl rfl f4 (g := (mkF m 21 #[.val (.int p0), .val (.ref bv1), .val (.int (12 : Int32)), .val (.int (0 : Int32)), .val (.ref u0)] [(.ref u0)])) rfl rfl (hb hby d1_21)
  have pre6 : ∀ t, Steps p.tables e below (T5.setTop (mkF m 25 #[.val (.int p0), .val (.ref bv1), .val (.int (12 : Int32)), .val (.int (0 : Int32)), .val (.ref u0)] [(.int p0), (.int (1 : Int32))])) t → Steps p.tables e below (s₁.setTop (entryFrame m #[(.int p0)] 5)) t := fun t kt => pre0 t (by
      show Steps p.tables e below (s₁.setTop (mkF m 0 #[.val (.int p0), .unset, .unset, .unset, .unset] [])) _
      refine st1 _ ?_
      show Steps p.tables e below (T1.setTop (mkF m 3 #[.val (.int p0), .unset, .unset, .unset, .unset] [(.ref bv1)])) _
      refine XS.astoreN X1.here hx rfl (hb hby d1_3) rfl rfl (l' := #[.val (.int p0), .val (.ref bv1), .unset, .unset, .unset]) rfl ?_
      show Steps p.tables e below (T1.setTop (mkF m 4 #[.val (.int p0), .val (.ref bv1), .unset, .unset, .unset] [])) _
      refine XS.aloadN X1.here hx rfl (hb hby d1_4) rfl rfl ?_
      show Steps p.tables e below (T1.setTop (mkF m 5 #[.val (.int p0), .val (.ref bv1), .unset, .unset, .unset] [(.ref bv1)])) _
      refine X1.arraylength hx Ar2.1 (State.isArrayOf_alike hZ.alike Ar2.2.1) (g := (mkF m 5 #[.val (.int p0), .val (.ref bv1), .unset, .unset, .unset] [(.ref bv1)])) rfl rfl (hb hby d1_5) _ ?_
      rw [len_of S2 Nn2]
      show Steps p.tables e below (T1.setTop (mkF m 6 #[.val (.int p0), .val (.ref bv1), .unset, .unset, .unset] [(.int (12 : Int32))])) _
      refine XS.istoreN X1.here hx rfl (hb hby d1_6) rfl (l' := #[.val (.int p0), .val (.ref bv1), .val (.int (12 : Int32)), .unset, .unset]) rfl ?_
      show Steps p.tables e below (T1.setTop (mkF m 7 #[.val (.int p0), .val (.ref bv1), .val (.int (12 : Int32)), .unset, .unset] [])) _
      refine XS.iconst X1.here hx rfl (hb hby d1_7) ?_
      show Steps p.tables e below (T1.setTop (mkF m 8 #[.val (.int p0), .val (.ref bv1), .val (.int (12 : Int32)), .unset, .unset] [(.int (0 : Int32))])) _
      refine XS.istoreN X1.here hx rfl (hb hby d1_8) rfl (l' := #[.val (.int p0), .val (.ref bv1), .val (.int (12 : Int32)), .val (.int (0 : Int32)), .unset]) rfl ?_
      show Steps p.tables e below (T1.setTop (mkF m 9 #[.val (.int p0), .val (.ref bv1), .val (.int (12 : Int32)), .val (.int (0 : Int32)), .unset] [])) _
      refine XS.iloadN X1.here hx rfl (hb hby d1_9) rfl ?_
      show Steps p.tables e below (T1.setTop (mkF m 10 #[.val (.int p0), .val (.ref bv1), .val (.int (12 : Int32)), .val (.int (0 : Int32)), .unset] [(.int (0 : Int32))])) _
      refine XS.iloadN X1.here hx rfl (hb hby d1_10) rfl ?_
      show Steps p.tables e below (T1.setTop (mkF m 11 #[.val (.int p0), .val (.ref bv1), .val (.int (12 : Int32)), .val (.int (0 : Int32)), .unset] [(.int (12 : Int32)), (.int (0 : Int32))])) _
      refine XS.icmpNo X1.here hx rfl (hb hby d1_11) rfl (tlt (show (0 : Int32) < (12 : Int32) from (by decide))).2.1 ?_
      show Steps p.tables e below (T1.setTop (mkF m 14 #[.val (.int p0), .val (.ref bv1), .val (.int (12 : Int32)), .val (.int (0 : Int32)), .unset] [])) _
      refine XS.aloadN X1.here hx rfl (hb hby d1_14) rfl rfl ?_
      show Steps p.tables e below (T1.setTop (mkF m 15 #[.val (.int p0), .val (.ref bv1), .val (.int (12 : Int32)), .val (.int (0 : Int32)), .unset] [(.ref bv1)])) _
      refine XS.iloadN X1.here hx rfl (hb hby d1_15) rfl ?_
      show Steps p.tables e below (T1.setTop (mkF m 16 #[.val (.int p0), .val (.ref bv1), .val (.int (12 : Int32)), .val (.int (0 : Int32)), .unset] [(.int (0 : Int32)), (.ref bv1)])) _
      refine X1.aaload hx (j := (0 : Int32)) (v := (.ref u0)) Ar3.1 (State.isArrayOf_alike hZ.alike Ar3.2.1) rfl Ar3.2.2 hin3 hat3 (g := (mkF m 16 #[.val (.int p0), .val (.ref bv1), .val (.int (12 : Int32)), .val (.int (0 : Int32)), .unset] [(.int (0 : Int32)), (.ref bv1)])) rfl rfl (hb hby d1_16) _ ?_
      show Steps p.tables e below (T1.setTop (mkF m 17 #[.val (.int p0), .val (.ref bv1), .val (.int (12 : Int32)), .val (.int (0 : Int32)), .unset] [(.ref u0)])) _
      refine XS.astore X1.here hx rfl (hb hby d1_17) rfl rfl (l' := #[.val (.int p0), .val (.ref bv1), .val (.int (12 : Int32)), .val (.int (0 : Int32)), .val (.ref u0)]) rfl ?_
      show Steps p.tables e below (T1.setTop (mkF m 19 #[.val (.int p0), .val (.ref bv1), .val (.int (12 : Int32)), .val (.int (0 : Int32)), .val (.ref u0)] [])) _
      refine XS.aload X1.here hx rfl (hb hby d1_19) rfl rfl ?_
      show Steps p.tables e below (T1.setTop (mkF m 21 #[.val (.int p0), .val (.ref bv1), .val (.int (12 : Int32)), .val (.int (0 : Int32)), .val (.ref u0)] [(.ref u0)])) _
      refine st5 _ ?_
      show Steps p.tables e below (T5.setTop (mkF m 24 #[.val (.int p0), .val (.ref bv1), .val (.int (12 : Int32)), .val (.int (0 : Int32)), .val (.ref u0)] [(.int (1 : Int32))])) _
      refine XS.iloadN X5.here hx rfl (hb hby d1_24) rfl ?_
      exact kt)
  by_cases hc25 : (1 : Int32) = p0
  · obtain ⟨fs, hr, hrun, hended, hW, hsame⟩ := X5.leave (v := some (.ref u0)) (fun h => by rw [Bd.returns] at h; cases h)
    refine ⟨_, _, pre6 _ ?_, hrun, hended, _, _, rfl, ?_, ⟨_, rfl⟩, hW, hsame.mono (by decide) (by decide)⟩
    · show Steps p.tables e below (T5.setTop (mkF m 25 #[.val (.int p0), .val (.ref bv1), .val (.int (12 : Int32)), .val (.int (0 : Int32)), .val (.ref u0)] [(.int p0), (.int (1 : Int32))])) _
      refine XS.icmpNo X5.here hx rfl (hb hby d1_25) rfl (teq (show (1 : Int32) = p0 from hc25)).2 ?_
      show Steps p.tables e below (T5.setTop (mkF m 28 #[.val (.int p0), .val (.ref bv1), .val (.int (12 : Int32)), .val (.int (0 : Int32)), .val (.ref u0)] [])) _
      refine XS.aload X5.here hx rfl (hb hby d1_28) rfl rfl ?_
      show Steps p.tables e below (T5.setTop (mkF m 30 #[.val (.int p0), .val (.ref bv1), .val (.int (12 : Int32)), .val (.int (0 : Int32)), .val (.ref u0)] [(.ref u0)])) _
      jvm_step X5.here [X5.here.top, hx, (hb hby d1_30), X5.method', Bd.returns, Value.isRef, FieldType.isReference]
      first | (intro acts; rw [hr _ acts rfl rfl rfl]) | rw [hr _ _ rfl rfl rfl]
      exact Steps.refl _
    · show Q1 p0 u0 u1 u2 u3 u4 u5 u6 u7 u8 u9 u10 u11 h0 n0 _ T5.heap _
      rw [e5]
      exact ⟨(by rw [ofV, if_pos hc25]), N1, KK1⟩
  · obtain ⟨cl7, Ar7, -, S7, Nn7, Hh7, -⟩ := id V1
    have hin7 : ¬ ((1 : Int32) < 0 ∨ cl7.slots.size ≤ ((1 : Int32)).toNatClampNeg) := inb_of S7 ⟨by decide, by decide⟩
    have hat7 : cl7.slots[((1 : Int32)).toNatClampNeg]? = some (.ref u1) := Hh7.at hin7 rfl
    have f8 := (F1.keep K1 (by simp))
    obtain ⟨T9, X9, e9, st9⟩ := getF X5 hx hZ hown (host := "") (Or.inl (hw _ (List.mem_of_getElem? (i := 31) rfl))) Via.refl e5 f8 (g := (mkF m 21 #[.val (.int p0), .val (.ref bv1), .val (.int (12 : Int32)), .val (.int (1 : Int32)), .val (.ref u1)] [(.ref u1)])) rfl rfl (hb hby d1_21)
    have pre10 : ∀ t, Steps p.tables e below (T9.setTop (mkF m 25 #[.val (.int p0), .val (.ref bv1), .val (.int (12 : Int32)), .val (.int (1 : Int32)), .val (.ref u1)] [(.int p0), (.int (2 : Int32))])) t → Steps p.tables e below (s₁.setTop (entryFrame m #[(.int p0)] 5)) t := fun t kt => pre6 t (by
        show Steps p.tables e below (T5.setTop (mkF m 25 #[.val (.int p0), .val (.ref bv1), .val (.int (12 : Int32)), .val (.int (0 : Int32)), .val (.ref u0)] [(.int p0), (.int (1 : Int32))])) _
        refine XS.icmpYes X5.here hx rfl (pc0 := 25) (pc' := 31) rfl (hb hby d1_25) rfl (feq (show ¬ ((1 : Int32) = p0) from hc25)).2 (by decide) (by decide) ?_
        show Steps p.tables e below (T5.setTop (mkF m 31 #[.val (.int p0), .val (.ref bv1), .val (.int (12 : Int32)), .val (.int (0 : Int32)), .val (.ref u0)] [])) _
        refine XS.iinc X5.here hx rfl (hb hby d1_31) rfl (l' := #[.val (.int p0), .val (.ref bv1), .val (.int (12 : Int32)), .val (.int (1 : Int32)), .val (.ref u0)]) rfl ?_
        show Steps p.tables e below (T5.setTop (mkF m 34 #[.val (.int p0), .val (.ref bv1), .val (.int (12 : Int32)), .val (.int (1 : Int32)), .val (.ref u0)] [])) _
        refine XS.goto X5.here hx rfl (pc0 := 34) (pc' := 9) rfl (hb hby d1_34) (by decide) (by decide) ?_
        show Steps p.tables e below (T5.setTop (mkF m 9 #[.val (.int p0), .val (.ref bv1), .val (.int (12 : Int32)), .val (.int (1 : Int32)), .val (.ref u0)] [])) _
        refine XS.iloadN X5.here hx rfl (hb hby d1_9) rfl ?_
        show Steps p.tables e below (T5.setTop (mkF m 10 #[.val (.int p0), .val (.ref bv1), .val (.int (12 : Int32)), .val (.int (1 : Int32)), .val (.ref u0)] [(.int (1 : Int32))])) _
        refine XS.iloadN X5.here hx rfl (hb hby d1_10) rfl ?_
        show Steps p.tables e below (T5.setTop (mkF m 11 #[.val (.int p0), .val (.ref bv1), .val (.int (12 : Int32)), .val (.int (1 : Int32)), .val (.ref u0)] [(.int (12 : Int32)), (.int (1 : Int32))])) _
        refine XS.icmpNo X5.here hx rfl (hb hby d1_11) rfl (tlt (show (1 : Int32) < (12 : Int32) from (by decide))).2.1 ?_
        show Steps p.tables e below (T5.setTop (mkF m 14 #[.val (.int p0), .val (.ref bv1), .val (.int (12 : Int32)), .val (.int (1 : Int32)), .val (.ref u0)] [])) _
        refine XS.aloadN X5.here hx rfl (hb hby d1_14) rfl rfl ?_
        show Steps p.tables e below (T5.setTop (mkF m 15 #[.val (.int p0), .val (.ref bv1), .val (.int (12 : Int32)), .val (.int (1 : Int32)), .val (.ref u0)] [(.ref bv1)])) _
        refine XS.iloadN X5.here hx rfl (hb hby d1_15) rfl ?_
        show Steps p.tables e below (T5.setTop (mkF m 16 #[.val (.int p0), .val (.ref bv1), .val (.int (12 : Int32)), .val (.int (1 : Int32)), .val (.ref u0)] [(.int (1 : Int32)), (.ref bv1)])) _
        refine X5.aaload hx (j := (1 : Int32)) (v := (.ref u1)) (by rw [e5]; exact Ar7.1) (State.isArrayOf_alike hZ.alike Ar7.2.1) rfl Ar7.2.2 hin7 hat7 (g := (mkF m 16 #[.val (.int p0), .val (.ref bv1), .val (.int (12 : Int32)), .val (.int (1 : Int32)), .val (.ref u0)] [(.int (1 : Int32)), (.ref bv1)])) rfl rfl (hb hby d1_16) _ ?_
        show Steps p.tables e below (T5.setTop (mkF m 17 #[.val (.int p0), .val (.ref bv1), .val (.int (12 : Int32)), .val (.int (1 : Int32)), .val (.ref u0)] [(.ref u1)])) _
        refine XS.astore X5.here hx rfl (hb hby d1_17) rfl rfl (l' := #[.val (.int p0), .val (.ref bv1), .val (.int (12 : Int32)), .val (.int (1 : Int32)), .val (.ref u1)]) rfl ?_
        show Steps p.tables e below (T5.setTop (mkF m 19 #[.val (.int p0), .val (.ref bv1), .val (.int (12 : Int32)), .val (.int (1 : Int32)), .val (.ref u1)] [])) _
        refine XS.aload X5.here hx rfl (hb hby d1_19) rfl rfl ?_
        show Steps p.tables e below (T5.setTop (mkF m 21 #[.val (.int p0), .val (.ref bv1), .val (.int (12 : Int32)), .val (.int (1 : Int32)), .val (.ref u1)] [(.ref u1)])) _
        refine st9 _ ?_
        show Steps p.tables e below (T9.setTop (mkF m 24 #[.val (.int p0), .val (.ref bv1), .val (.int (12 : Int32)), .val (.int (1 : Int32)), .val (.ref u1)] [(.int (2 : Int32))])) _
        refine XS.iloadN X9.here hx rfl (hb hby d1_24) rfl ?_
        exact kt)
    by_cases hc25_1 : (2 : Int32) = p0
    · obtain ⟨fs, hr, hrun, hended, hW, hsame⟩ := X9.leave (v := some (.ref u1)) (fun h => by rw [Bd.returns] at h; cases h)
      refine ⟨_, _, pre10 _ ?_, hrun, hended, _, _, rfl, ?_, ⟨_, rfl⟩, hW, hsame.mono (by decide) (by decide)⟩
      · show Steps p.tables e below (T9.setTop (mkF m 25 #[.val (.int p0), .val (.ref bv1), .val (.int (12 : Int32)), .val (.int (1 : Int32)), .val (.ref u1)] [(.int p0), (.int (2 : Int32))])) _
        refine XS.icmpNo X9.here hx rfl (hb hby d1_25) rfl (teq (show (2 : Int32) = p0 from hc25_1)).2 ?_
        show Steps p.tables e below (T9.setTop (mkF m 28 #[.val (.int p0), .val (.ref bv1), .val (.int (12 : Int32)), .val (.int (1 : Int32)), .val (.ref u1)] [])) _
        refine XS.aload X9.here hx rfl (hb hby d1_28) rfl rfl ?_
        show Steps p.tables e below (T9.setTop (mkF m 30 #[.val (.int p0), .val (.ref bv1), .val (.int (12 : Int32)), .val (.int (1 : Int32)), .val (.ref u1)] [(.ref u1)])) _
        jvm_step X9.here [X9.here.top, hx, (hb hby d1_30), X9.method', Bd.returns, Value.isRef, FieldType.isReference]
        first | (intro acts; rw [hr _ acts rfl rfl rfl]) | rw [hr _ _ rfl rfl rfl]
        exact Steps.refl _
      · show Q1 p0 u0 u1 u2 u3 u4 u5 u6 u7 u8 u9 u10 u11 h0 n0 _ T9.heap _
        rw [e9]
        exact ⟨(by rw [ofV, if_neg hc25, if_pos hc25_1]), N1, KK1⟩
    · obtain ⟨cl11, Ar11, -, S11, Nn11, Hh11, -⟩ := id V1
      have hin11 : ¬ ((2 : Int32) < 0 ∨ cl11.slots.size ≤ ((2 : Int32)).toNatClampNeg) := inb_of S11 ⟨by decide, by decide⟩
      have hat11 : cl11.slots[((2 : Int32)).toNatClampNeg]? = some (.ref u2) := Hh11.at hin11 rfl
      have f12 := (F2.keep K1 (by simp))
      obtain ⟨T13, X13, e13, st13⟩ := getF X9 hx hZ hown (host := "") (Or.inl (hw _ (List.mem_of_getElem? (i := 31) rfl))) Via.refl e9 f12 (g := (mkF m 21 #[.val (.int p0), .val (.ref bv1), .val (.int (12 : Int32)), .val (.int (2 : Int32)), .val (.ref u2)] [(.ref u2)])) rfl rfl (hb hby d1_21)
      have pre14 : ∀ t, Steps p.tables e below (T13.setTop (mkF m 25 #[.val (.int p0), .val (.ref bv1), .val (.int (12 : Int32)), .val (.int (2 : Int32)), .val (.ref u2)] [(.int p0), (.int (3 : Int32))])) t → Steps p.tables e below (s₁.setTop (entryFrame m #[(.int p0)] 5)) t := fun t kt => pre10 t (by
          show Steps p.tables e below (T9.setTop (mkF m 25 #[.val (.int p0), .val (.ref bv1), .val (.int (12 : Int32)), .val (.int (1 : Int32)), .val (.ref u1)] [(.int p0), (.int (2 : Int32))])) _
          refine XS.icmpYes X9.here hx rfl (pc0 := 25) (pc' := 31) rfl (hb hby d1_25) rfl (feq (show ¬ ((2 : Int32) = p0) from hc25_1)).2 (by decide) (by decide) ?_
          show Steps p.tables e below (T9.setTop (mkF m 31 #[.val (.int p0), .val (.ref bv1), .val (.int (12 : Int32)), .val (.int (1 : Int32)), .val (.ref u1)] [])) _
          refine XS.iinc X9.here hx rfl (hb hby d1_31) rfl (l' := #[.val (.int p0), .val (.ref bv1), .val (.int (12 : Int32)), .val (.int (2 : Int32)), .val (.ref u1)]) rfl ?_
          show Steps p.tables e below (T9.setTop (mkF m 34 #[.val (.int p0), .val (.ref bv1), .val (.int (12 : Int32)), .val (.int (2 : Int32)), .val (.ref u1)] [])) _
          refine XS.goto X9.here hx rfl (pc0 := 34) (pc' := 9) rfl (hb hby d1_34) (by decide) (by decide) ?_
          show Steps p.tables e below (T9.setTop (mkF m 9 #[.val (.int p0), .val (.ref bv1), .val (.int (12 : Int32)), .val (.int (2 : Int32)), .val (.ref u1)] [])) _
          refine XS.iloadN X9.here hx rfl (hb hby d1_9) rfl ?_
          show Steps p.tables e below (T9.setTop (mkF m 10 #[.val (.int p0), .val (.ref bv1), .val (.int (12 : Int32)), .val (.int (2 : Int32)), .val (.ref u1)] [(.int (2 : Int32))])) _
          refine XS.iloadN X9.here hx rfl (hb hby d1_10) rfl ?_
          show Steps p.tables e below (T9.setTop (mkF m 11 #[.val (.int p0), .val (.ref bv1), .val (.int (12 : Int32)), .val (.int (2 : Int32)), .val (.ref u1)] [(.int (12 : Int32)), (.int (2 : Int32))])) _
          refine XS.icmpNo X9.here hx rfl (hb hby d1_11) rfl (tlt (show (2 : Int32) < (12 : Int32) from (by decide))).2.1 ?_
          show Steps p.tables e below (T9.setTop (mkF m 14 #[.val (.int p0), .val (.ref bv1), .val (.int (12 : Int32)), .val (.int (2 : Int32)), .val (.ref u1)] [])) _
          refine XS.aloadN X9.here hx rfl (hb hby d1_14) rfl rfl ?_
          show Steps p.tables e below (T9.setTop (mkF m 15 #[.val (.int p0), .val (.ref bv1), .val (.int (12 : Int32)), .val (.int (2 : Int32)), .val (.ref u1)] [(.ref bv1)])) _
          refine XS.iloadN X9.here hx rfl (hb hby d1_15) rfl ?_
          show Steps p.tables e below (T9.setTop (mkF m 16 #[.val (.int p0), .val (.ref bv1), .val (.int (12 : Int32)), .val (.int (2 : Int32)), .val (.ref u1)] [(.int (2 : Int32)), (.ref bv1)])) _
          refine X9.aaload hx (j := (2 : Int32)) (v := (.ref u2)) (by rw [e9]; exact Ar11.1) (State.isArrayOf_alike hZ.alike Ar11.2.1) rfl Ar11.2.2 hin11 hat11 (g := (mkF m 16 #[.val (.int p0), .val (.ref bv1), .val (.int (12 : Int32)), .val (.int (2 : Int32)), .val (.ref u1)] [(.int (2 : Int32)), (.ref bv1)])) rfl rfl (hb hby d1_16) _ ?_
          show Steps p.tables e below (T9.setTop (mkF m 17 #[.val (.int p0), .val (.ref bv1), .val (.int (12 : Int32)), .val (.int (2 : Int32)), .val (.ref u1)] [(.ref u2)])) _
          refine XS.astore X9.here hx rfl (hb hby d1_17) rfl rfl (l' := #[.val (.int p0), .val (.ref bv1), .val (.int (12 : Int32)), .val (.int (2 : Int32)), .val (.ref u2)]) rfl ?_
          show Steps p.tables e below (T9.setTop (mkF m 19 #[.val (.int p0), .val (.ref bv1), .val (.int (12 : Int32)), .val (.int (2 : Int32)), .val (.ref u2)] [])) _
          refine XS.aload X9.here hx rfl (hb hby d1_19) rfl rfl ?_
          show Steps p.tables e below (T9.setTop (mkF m 21 #[.val (.int p0), .val (.ref bv1), .val (.int (12 : Int32)), .val (.int (2 : Int32)), .val (.ref u2)] [(.ref u2)])) _
          refine st13 _ ?_
          show Steps p.tables e below (T13.setTop (mkF m 24 #[.val (.int p0), .val (.ref bv1), .val (.int (12 : Int32)), .val (.int (2 : Int32)), .val (.ref u2)] [(.int (3 : Int32))])) _
          refine XS.iloadN X13.here hx rfl (hb hby d1_24) rfl ?_
          exact kt)
      by_cases hc25_2 : (3 : Int32) = p0
      · obtain ⟨fs, hr, hrun, hended, hW, hsame⟩ := X13.leave (v := some (.ref u2)) (fun h => by rw [Bd.returns] at h; cases h)
        refine ⟨_, _, pre14 _ ?_, hrun, hended, _, _, rfl, ?_, ⟨_, rfl⟩, hW, hsame.mono (by decide) (by decide)⟩
        · show Steps p.tables e below (T13.setTop (mkF m 25 #[.val (.int p0), .val (.ref bv1), .val (.int (12 : Int32)), .val (.int (2 : Int32)), .val (.ref u2)] [(.int p0), (.int (3 : Int32))])) _
          refine XS.icmpNo X13.here hx rfl (hb hby d1_25) rfl (teq (show (3 : Int32) = p0 from hc25_2)).2 ?_
          show Steps p.tables e below (T13.setTop (mkF m 28 #[.val (.int p0), .val (.ref bv1), .val (.int (12 : Int32)), .val (.int (2 : Int32)), .val (.ref u2)] [])) _
          refine XS.aload X13.here hx rfl (hb hby d1_28) rfl rfl ?_
          show Steps p.tables e below (T13.setTop (mkF m 30 #[.val (.int p0), .val (.ref bv1), .val (.int (12 : Int32)), .val (.int (2 : Int32)), .val (.ref u2)] [(.ref u2)])) _
          jvm_step X13.here [X13.here.top, hx, (hb hby d1_30), X13.method', Bd.returns, Value.isRef, FieldType.isReference]
          first | (intro acts; rw [hr _ acts rfl rfl rfl]) | rw [hr _ _ rfl rfl rfl]
          exact Steps.refl _
        · show Q1 p0 u0 u1 u2 u3 u4 u5 u6 u7 u8 u9 u10 u11 h0 n0 _ T13.heap _
          rw [e13]
          exact ⟨(by rw [ofV, if_neg hc25, if_neg hc25_1, if_pos hc25_2]), N1, KK1⟩
      · obtain ⟨cl15, Ar15, -, S15, Nn15, Hh15, -⟩ := id V1
        have hin15 : ¬ ((3 : Int32) < 0 ∨ cl15.slots.size ≤ ((3 : Int32)).toNatClampNeg) := inb_of S15 ⟨by decide, by decide⟩
        have hat15 : cl15.slots[((3 : Int32)).toNatClampNeg]? = some (.ref u3) := Hh15.at hin15 rfl
        have f16 := (F3.keep K1 (by simp))
        obtain ⟨T17, X17, e17, st17⟩ := getF X13 hx hZ hown (host := "") (Or.inl (hw _ (List.mem_of_getElem? (i := 31) rfl))) Via.refl e13 f16 (g := (mkF m 21 #[.val (.int p0), .val (.ref bv1), .val (.int (12 : Int32)), .val (.int (3 : Int32)), .val (.ref u3)] [(.ref u3)])) rfl rfl (hb hby d1_21)
        have pre18 : ∀ t, Steps p.tables e below (T17.setTop (mkF m 25 #[.val (.int p0), .val (.ref bv1), .val (.int (12 : Int32)), .val (.int (3 : Int32)), .val (.ref u3)] [(.int p0), (.int (4 : Int32))])) t → Steps p.tables e below (s₁.setTop (entryFrame m #[(.int p0)] 5)) t := fun t kt => pre14 t (by
            show Steps p.tables e below (T13.setTop (mkF m 25 #[.val (.int p0), .val (.ref bv1), .val (.int (12 : Int32)), .val (.int (2 : Int32)), .val (.ref u2)] [(.int p0), (.int (3 : Int32))])) _
            refine XS.icmpYes X13.here hx rfl (pc0 := 25) (pc' := 31) rfl (hb hby d1_25) rfl (feq (show ¬ ((3 : Int32) = p0) from hc25_2)).2 (by decide) (by decide) ?_
            show Steps p.tables e below (T13.setTop (mkF m 31 #[.val (.int p0), .val (.ref bv1), .val (.int (12 : Int32)), .val (.int (2 : Int32)), .val (.ref u2)] [])) _
            refine XS.iinc X13.here hx rfl (hb hby d1_31) rfl (l' := #[.val (.int p0), .val (.ref bv1), .val (.int (12 : Int32)), .val (.int (3 : Int32)), .val (.ref u2)]) rfl ?_
            show Steps p.tables e below (T13.setTop (mkF m 34 #[.val (.int p0), .val (.ref bv1), .val (.int (12 : Int32)), .val (.int (3 : Int32)), .val (.ref u2)] [])) _
            refine XS.goto X13.here hx rfl (pc0 := 34) (pc' := 9) rfl (hb hby d1_34) (by decide) (by decide) ?_
            show Steps p.tables e below (T13.setTop (mkF m 9 #[.val (.int p0), .val (.ref bv1), .val (.int (12 : Int32)), .val (.int (3 : Int32)), .val (.ref u2)] [])) _
            refine XS.iloadN X13.here hx rfl (hb hby d1_9) rfl ?_
            show Steps p.tables e below (T13.setTop (mkF m 10 #[.val (.int p0), .val (.ref bv1), .val (.int (12 : Int32)), .val (.int (3 : Int32)), .val (.ref u2)] [(.int (3 : Int32))])) _
            refine XS.iloadN X13.here hx rfl (hb hby d1_10) rfl ?_
            show Steps p.tables e below (T13.setTop (mkF m 11 #[.val (.int p0), .val (.ref bv1), .val (.int (12 : Int32)), .val (.int (3 : Int32)), .val (.ref u2)] [(.int (12 : Int32)), (.int (3 : Int32))])) _
            refine XS.icmpNo X13.here hx rfl (hb hby d1_11) rfl (tlt (show (3 : Int32) < (12 : Int32) from (by decide))).2.1 ?_
            show Steps p.tables e below (T13.setTop (mkF m 14 #[.val (.int p0), .val (.ref bv1), .val (.int (12 : Int32)), .val (.int (3 : Int32)), .val (.ref u2)] [])) _
            refine XS.aloadN X13.here hx rfl (hb hby d1_14) rfl rfl ?_
            show Steps p.tables e below (T13.setTop (mkF m 15 #[.val (.int p0), .val (.ref bv1), .val (.int (12 : Int32)), .val (.int (3 : Int32)), .val (.ref u2)] [(.ref bv1)])) _
            refine XS.iloadN X13.here hx rfl (hb hby d1_15) rfl ?_
            show Steps p.tables e below (T13.setTop (mkF m 16 #[.val (.int p0), .val (.ref bv1), .val (.int (12 : Int32)), .val (.int (3 : Int32)), .val (.ref u2)] [(.int (3 : Int32)), (.ref bv1)])) _
            refine X13.aaload hx (j := (3 : Int32)) (v := (.ref u3)) (by rw [e13]; exact Ar15.1) (State.isArrayOf_alike hZ.alike Ar15.2.1) rfl Ar15.2.2 hin15 hat15 (g := (mkF m 16 #[.val (.int p0), .val (.ref bv1), .val (.int (12 : Int32)), .val (.int (3 : Int32)), .val (.ref u2)] [(.int (3 : Int32)), (.ref bv1)])) rfl rfl (hb hby d1_16) _ ?_
            show Steps p.tables e below (T13.setTop (mkF m 17 #[.val (.int p0), .val (.ref bv1), .val (.int (12 : Int32)), .val (.int (3 : Int32)), .val (.ref u2)] [(.ref u3)])) _
            refine XS.astore X13.here hx rfl (hb hby d1_17) rfl rfl (l' := #[.val (.int p0), .val (.ref bv1), .val (.int (12 : Int32)), .val (.int (3 : Int32)), .val (.ref u3)]) rfl ?_
            show Steps p.tables e below (T13.setTop (mkF m 19 #[.val (.int p0), .val (.ref bv1), .val (.int (12 : Int32)), .val (.int (3 : Int32)), .val (.ref u3)] [])) _
            refine XS.aload X13.here hx rfl (hb hby d1_19) rfl rfl ?_
            show Steps p.tables e below (T13.setTop (mkF m 21 #[.val (.int p0), .val (.ref bv1), .val (.int (12 : Int32)), .val (.int (3 : Int32)), .val (.ref u3)] [(.ref u3)])) _
            refine st17 _ ?_
            show Steps p.tables e below (T17.setTop (mkF m 24 #[.val (.int p0), .val (.ref bv1), .val (.int (12 : Int32)), .val (.int (3 : Int32)), .val (.ref u3)] [(.int (4 : Int32))])) _
            refine XS.iloadN X17.here hx rfl (hb hby d1_24) rfl ?_
            exact kt)
        by_cases hc25_3 : (4 : Int32) = p0
        · obtain ⟨fs, hr, hrun, hended, hW, hsame⟩ := X17.leave (v := some (.ref u3)) (fun h => by rw [Bd.returns] at h; cases h)
          refine ⟨_, _, pre18 _ ?_, hrun, hended, _, _, rfl, ?_, ⟨_, rfl⟩, hW, hsame.mono (by decide) (by decide)⟩
          · show Steps p.tables e below (T17.setTop (mkF m 25 #[.val (.int p0), .val (.ref bv1), .val (.int (12 : Int32)), .val (.int (3 : Int32)), .val (.ref u3)] [(.int p0), (.int (4 : Int32))])) _
            refine XS.icmpNo X17.here hx rfl (hb hby d1_25) rfl (teq (show (4 : Int32) = p0 from hc25_3)).2 ?_
            show Steps p.tables e below (T17.setTop (mkF m 28 #[.val (.int p0), .val (.ref bv1), .val (.int (12 : Int32)), .val (.int (3 : Int32)), .val (.ref u3)] [])) _
            refine XS.aload X17.here hx rfl (hb hby d1_28) rfl rfl ?_
            show Steps p.tables e below (T17.setTop (mkF m 30 #[.val (.int p0), .val (.ref bv1), .val (.int (12 : Int32)), .val (.int (3 : Int32)), .val (.ref u3)] [(.ref u3)])) _
            jvm_step X17.here [X17.here.top, hx, (hb hby d1_30), X17.method', Bd.returns, Value.isRef, FieldType.isReference]
            first | (intro acts; rw [hr _ acts rfl rfl rfl]) | rw [hr _ _ rfl rfl rfl]
            exact Steps.refl _
          · show Q1 p0 u0 u1 u2 u3 u4 u5 u6 u7 u8 u9 u10 u11 h0 n0 _ T17.heap _
            rw [e17]
            exact ⟨(by rw [ofV, if_neg hc25, if_neg hc25_1, if_neg hc25_2, if_pos hc25_3]), N1, KK1⟩
        · obtain ⟨cl19, Ar19, -, S19, Nn19, Hh19, -⟩ := id V1
          have hin19 : ¬ ((4 : Int32) < 0 ∨ cl19.slots.size ≤ ((4 : Int32)).toNatClampNeg) := inb_of S19 ⟨by decide, by decide⟩
          have hat19 : cl19.slots[((4 : Int32)).toNatClampNeg]? = some (.ref u4) := Hh19.at hin19 rfl
          have f20 := (F4.keep K1 (by simp))
          obtain ⟨T21, X21, e21, st21⟩ := getF X17 hx hZ hown (host := "") (Or.inl (hw _ (List.mem_of_getElem? (i := 31) rfl))) Via.refl e17 f20 (g := (mkF m 21 #[.val (.int p0), .val (.ref bv1), .val (.int (12 : Int32)), .val (.int (4 : Int32)), .val (.ref u4)] [(.ref u4)])) rfl rfl (hb hby d1_21)
          have pre22 : ∀ t, Steps p.tables e below (T21.setTop (mkF m 25 #[.val (.int p0), .val (.ref bv1), .val (.int (12 : Int32)), .val (.int (4 : Int32)), .val (.ref u4)] [(.int p0), (.int (5 : Int32))])) t → Steps p.tables e below (s₁.setTop (entryFrame m #[(.int p0)] 5)) t := fun t kt => pre18 t (by
              show Steps p.tables e below (T17.setTop (mkF m 25 #[.val (.int p0), .val (.ref bv1), .val (.int (12 : Int32)), .val (.int (3 : Int32)), .val (.ref u3)] [(.int p0), (.int (4 : Int32))])) _
              refine XS.icmpYes X17.here hx rfl (pc0 := 25) (pc' := 31) rfl (hb hby d1_25) rfl (feq (show ¬ ((4 : Int32) = p0) from hc25_3)).2 (by decide) (by decide) ?_
              show Steps p.tables e below (T17.setTop (mkF m 31 #[.val (.int p0), .val (.ref bv1), .val (.int (12 : Int32)), .val (.int (3 : Int32)), .val (.ref u3)] [])) _
              refine XS.iinc X17.here hx rfl (hb hby d1_31) rfl (l' := #[.val (.int p0), .val (.ref bv1), .val (.int (12 : Int32)), .val (.int (4 : Int32)), .val (.ref u3)]) rfl ?_
              show Steps p.tables e below (T17.setTop (mkF m 34 #[.val (.int p0), .val (.ref bv1), .val (.int (12 : Int32)), .val (.int (4 : Int32)), .val (.ref u3)] [])) _
              refine XS.goto X17.here hx rfl (pc0 := 34) (pc' := 9) rfl (hb hby d1_34) (by decide) (by decide) ?_
              show Steps p.tables e below (T17.setTop (mkF m 9 #[.val (.int p0), .val (.ref bv1), .val (.int (12 : Int32)), .val (.int (4 : Int32)), .val (.ref u3)] [])) _
              refine XS.iloadN X17.here hx rfl (hb hby d1_9) rfl ?_
              show Steps p.tables e below (T17.setTop (mkF m 10 #[.val (.int p0), .val (.ref bv1), .val (.int (12 : Int32)), .val (.int (4 : Int32)), .val (.ref u3)] [(.int (4 : Int32))])) _
              refine XS.iloadN X17.here hx rfl (hb hby d1_10) rfl ?_
              show Steps p.tables e below (T17.setTop (mkF m 11 #[.val (.int p0), .val (.ref bv1), .val (.int (12 : Int32)), .val (.int (4 : Int32)), .val (.ref u3)] [(.int (12 : Int32)), (.int (4 : Int32))])) _
              refine XS.icmpNo X17.here hx rfl (hb hby d1_11) rfl (tlt (show (4 : Int32) < (12 : Int32) from (by decide))).2.1 ?_
              show Steps p.tables e below (T17.setTop (mkF m 14 #[.val (.int p0), .val (.ref bv1), .val (.int (12 : Int32)), .val (.int (4 : Int32)), .val (.ref u3)] [])) _
              refine XS.aloadN X17.here hx rfl (hb hby d1_14) rfl rfl ?_
              show Steps p.tables e below (T17.setTop (mkF m 15 #[.val (.int p0), .val (.ref bv1), .val (.int (12 : Int32)), .val (.int (4 : Int32)), .val (.ref u3)] [(.ref bv1)])) _
              refine XS.iloadN X17.here hx rfl (hb hby d1_15) rfl ?_
              show Steps p.tables e below (T17.setTop (mkF m 16 #[.val (.int p0), .val (.ref bv1), .val (.int (12 : Int32)), .val (.int (4 : Int32)), .val (.ref u3)] [(.int (4 : Int32)), (.ref bv1)])) _
              refine X17.aaload hx (j := (4 : Int32)) (v := (.ref u4)) (by rw [e17]; exact Ar19.1) (State.isArrayOf_alike hZ.alike Ar19.2.1) rfl Ar19.2.2 hin19 hat19 (g := (mkF m 16 #[.val (.int p0), .val (.ref bv1), .val (.int (12 : Int32)), .val (.int (4 : Int32)), .val (.ref u3)] [(.int (4 : Int32)), (.ref bv1)])) rfl rfl (hb hby d1_16) _ ?_
              show Steps p.tables e below (T17.setTop (mkF m 17 #[.val (.int p0), .val (.ref bv1), .val (.int (12 : Int32)), .val (.int (4 : Int32)), .val (.ref u3)] [(.ref u4)])) _
              refine XS.astore X17.here hx rfl (hb hby d1_17) rfl rfl (l' := #[.val (.int p0), .val (.ref bv1), .val (.int (12 : Int32)), .val (.int (4 : Int32)), .val (.ref u4)]) rfl ?_
              show Steps p.tables e below (T17.setTop (mkF m 19 #[.val (.int p0), .val (.ref bv1), .val (.int (12 : Int32)), .val (.int (4 : Int32)), .val (.ref u4)] [])) _
              refine XS.aload X17.here hx rfl (hb hby d1_19) rfl rfl ?_
              show Steps p.tables e below (T17.setTop (mkF m 21 #[.val (.int p0), .val (.ref bv1), .val (.int (12 : Int32)), .val (.int (4 : Int32)), .val (.ref u4)] [(.ref u4)])) _
              refine st21 _ ?_
              show Steps p.tables e below (T21.setTop (mkF m 24 #[.val (.int p0), .val (.ref bv1), .val (.int (12 : Int32)), .val (.int (4 : Int32)), .val (.ref u4)] [(.int (5 : Int32))])) _
              refine XS.iloadN X21.here hx rfl (hb hby d1_24) rfl ?_
              exact kt)
          by_cases hc25_4 : (5 : Int32) = p0
          · obtain ⟨fs, hr, hrun, hended, hW, hsame⟩ := X21.leave (v := some (.ref u4)) (fun h => by rw [Bd.returns] at h; cases h)
            refine ⟨_, _, pre22 _ ?_, hrun, hended, _, _, rfl, ?_, ⟨_, rfl⟩, hW, hsame.mono (by decide) (by decide)⟩
            · show Steps p.tables e below (T21.setTop (mkF m 25 #[.val (.int p0), .val (.ref bv1), .val (.int (12 : Int32)), .val (.int (4 : Int32)), .val (.ref u4)] [(.int p0), (.int (5 : Int32))])) _
              refine XS.icmpNo X21.here hx rfl (hb hby d1_25) rfl (teq (show (5 : Int32) = p0 from hc25_4)).2 ?_
              show Steps p.tables e below (T21.setTop (mkF m 28 #[.val (.int p0), .val (.ref bv1), .val (.int (12 : Int32)), .val (.int (4 : Int32)), .val (.ref u4)] [])) _
              refine XS.aload X21.here hx rfl (hb hby d1_28) rfl rfl ?_
              show Steps p.tables e below (T21.setTop (mkF m 30 #[.val (.int p0), .val (.ref bv1), .val (.int (12 : Int32)), .val (.int (4 : Int32)), .val (.ref u4)] [(.ref u4)])) _
              jvm_step X21.here [X21.here.top, hx, (hb hby d1_30), X21.method', Bd.returns, Value.isRef, FieldType.isReference]
              first | (intro acts; rw [hr _ acts rfl rfl rfl]) | rw [hr _ _ rfl rfl rfl]
              exact Steps.refl _
            · show Q1 p0 u0 u1 u2 u3 u4 u5 u6 u7 u8 u9 u10 u11 h0 n0 _ T21.heap _
              rw [e21]
              exact ⟨(by rw [ofV, if_neg hc25, if_neg hc25_1, if_neg hc25_2, if_neg hc25_3, if_pos hc25_4]), N1, KK1⟩
          · obtain ⟨cl23, Ar23, -, S23, Nn23, Hh23, -⟩ := id V1
            have hin23 : ¬ ((5 : Int32) < 0 ∨ cl23.slots.size ≤ ((5 : Int32)).toNatClampNeg) := inb_of S23 ⟨by decide, by decide⟩
            have hat23 : cl23.slots[((5 : Int32)).toNatClampNeg]? = some (.ref u5) := Hh23.at hin23 rfl
            have f24 := (F5.keep K1 (by simp))
            obtain ⟨T25, X25, e25, st25⟩ := getF X21 hx hZ hown (host := "") (Or.inl (hw _ (List.mem_of_getElem? (i := 31) rfl))) Via.refl e21 f24 (g := (mkF m 21 #[.val (.int p0), .val (.ref bv1), .val (.int (12 : Int32)), .val (.int (5 : Int32)), .val (.ref u5)] [(.ref u5)])) rfl rfl (hb hby d1_21)
            have pre26 : ∀ t, Steps p.tables e below (T25.setTop (mkF m 25 #[.val (.int p0), .val (.ref bv1), .val (.int (12 : Int32)), .val (.int (5 : Int32)), .val (.ref u5)] [(.int p0), (.int (6 : Int32))])) t → Steps p.tables e below (s₁.setTop (entryFrame m #[(.int p0)] 5)) t := fun t kt => pre22 t (by
                show Steps p.tables e below (T21.setTop (mkF m 25 #[.val (.int p0), .val (.ref bv1), .val (.int (12 : Int32)), .val (.int (4 : Int32)), .val (.ref u4)] [(.int p0), (.int (5 : Int32))])) _
                refine XS.icmpYes X21.here hx rfl (pc0 := 25) (pc' := 31) rfl (hb hby d1_25) rfl (feq (show ¬ ((5 : Int32) = p0) from hc25_4)).2 (by decide) (by decide) ?_
                show Steps p.tables e below (T21.setTop (mkF m 31 #[.val (.int p0), .val (.ref bv1), .val (.int (12 : Int32)), .val (.int (4 : Int32)), .val (.ref u4)] [])) _
                refine XS.iinc X21.here hx rfl (hb hby d1_31) rfl (l' := #[.val (.int p0), .val (.ref bv1), .val (.int (12 : Int32)), .val (.int (5 : Int32)), .val (.ref u4)]) rfl ?_
                show Steps p.tables e below (T21.setTop (mkF m 34 #[.val (.int p0), .val (.ref bv1), .val (.int (12 : Int32)), .val (.int (5 : Int32)), .val (.ref u4)] [])) _
                refine XS.goto X21.here hx rfl (pc0 := 34) (pc' := 9) rfl (hb hby d1_34) (by decide) (by decide) ?_
                show Steps p.tables e below (T21.setTop (mkF m 9 #[.val (.int p0), .val (.ref bv1), .val (.int (12 : Int32)), .val (.int (5 : Int32)), .val (.ref u4)] [])) _
                refine XS.iloadN X21.here hx rfl (hb hby d1_9) rfl ?_
                show Steps p.tables e below (T21.setTop (mkF m 10 #[.val (.int p0), .val (.ref bv1), .val (.int (12 : Int32)), .val (.int (5 : Int32)), .val (.ref u4)] [(.int (5 : Int32))])) _
                refine XS.iloadN X21.here hx rfl (hb hby d1_10) rfl ?_
                show Steps p.tables e below (T21.setTop (mkF m 11 #[.val (.int p0), .val (.ref bv1), .val (.int (12 : Int32)), .val (.int (5 : Int32)), .val (.ref u4)] [(.int (12 : Int32)), (.int (5 : Int32))])) _
                refine XS.icmpNo X21.here hx rfl (hb hby d1_11) rfl (tlt (show (5 : Int32) < (12 : Int32) from (by decide))).2.1 ?_
                show Steps p.tables e below (T21.setTop (mkF m 14 #[.val (.int p0), .val (.ref bv1), .val (.int (12 : Int32)), .val (.int (5 : Int32)), .val (.ref u4)] [])) _
                refine XS.aloadN X21.here hx rfl (hb hby d1_14) rfl rfl ?_
                show Steps p.tables e below (T21.setTop (mkF m 15 #[.val (.int p0), .val (.ref bv1), .val (.int (12 : Int32)), .val (.int (5 : Int32)), .val (.ref u4)] [(.ref bv1)])) _
                refine XS.iloadN X21.here hx rfl (hb hby d1_15) rfl ?_
                show Steps p.tables e below (T21.setTop (mkF m 16 #[.val (.int p0), .val (.ref bv1), .val (.int (12 : Int32)), .val (.int (5 : Int32)), .val (.ref u4)] [(.int (5 : Int32)), (.ref bv1)])) _
                refine X21.aaload hx (j := (5 : Int32)) (v := (.ref u5)) (by rw [e21]; exact Ar23.1) (State.isArrayOf_alike hZ.alike Ar23.2.1) rfl Ar23.2.2 hin23 hat23 (g := (mkF m 16 #[.val (.int p0), .val (.ref bv1), .val (.int (12 : Int32)), .val (.int (5 : Int32)), .val (.ref u4)] [(.int (5 : Int32)), (.ref bv1)])) rfl rfl (hb hby d1_16) _ ?_
                show Steps p.tables e below (T21.setTop (mkF m 17 #[.val (.int p0), .val (.ref bv1), .val (.int (12 : Int32)), .val (.int (5 : Int32)), .val (.ref u4)] [(.ref u5)])) _
                refine XS.astore X21.here hx rfl (hb hby d1_17) rfl rfl (l' := #[.val (.int p0), .val (.ref bv1), .val (.int (12 : Int32)), .val (.int (5 : Int32)), .val (.ref u5)]) rfl ?_
                show Steps p.tables e below (T21.setTop (mkF m 19 #[.val (.int p0), .val (.ref bv1), .val (.int (12 : Int32)), .val (.int (5 : Int32)), .val (.ref u5)] [])) _
                refine XS.aload X21.here hx rfl (hb hby d1_19) rfl rfl ?_
                show Steps p.tables e below (T21.setTop (mkF m 21 #[.val (.int p0), .val (.ref bv1), .val (.int (12 : Int32)), .val (.int (5 : Int32)), .val (.ref u5)] [(.ref u5)])) _
                refine st25 _ ?_
                show Steps p.tables e below (T25.setTop (mkF m 24 #[.val (.int p0), .val (.ref bv1), .val (.int (12 : Int32)), .val (.int (5 : Int32)), .val (.ref u5)] [(.int (6 : Int32))])) _
                refine XS.iloadN X25.here hx rfl (hb hby d1_24) rfl ?_
                exact kt)
            by_cases hc25_5 : (6 : Int32) = p0
            · obtain ⟨fs, hr, hrun, hended, hW, hsame⟩ := X25.leave (v := some (.ref u5)) (fun h => by rw [Bd.returns] at h; cases h)
              refine ⟨_, _, pre26 _ ?_, hrun, hended, _, _, rfl, ?_, ⟨_, rfl⟩, hW, hsame.mono (by decide) (by decide)⟩
              · show Steps p.tables e below (T25.setTop (mkF m 25 #[.val (.int p0), .val (.ref bv1), .val (.int (12 : Int32)), .val (.int (5 : Int32)), .val (.ref u5)] [(.int p0), (.int (6 : Int32))])) _
                refine XS.icmpNo X25.here hx rfl (hb hby d1_25) rfl (teq (show (6 : Int32) = p0 from hc25_5)).2 ?_
                show Steps p.tables e below (T25.setTop (mkF m 28 #[.val (.int p0), .val (.ref bv1), .val (.int (12 : Int32)), .val (.int (5 : Int32)), .val (.ref u5)] [])) _
                refine XS.aload X25.here hx rfl (hb hby d1_28) rfl rfl ?_
                show Steps p.tables e below (T25.setTop (mkF m 30 #[.val (.int p0), .val (.ref bv1), .val (.int (12 : Int32)), .val (.int (5 : Int32)), .val (.ref u5)] [(.ref u5)])) _
                jvm_step X25.here [X25.here.top, hx, (hb hby d1_30), X25.method', Bd.returns, Value.isRef, FieldType.isReference]
                first | (intro acts; rw [hr _ acts rfl rfl rfl]) | rw [hr _ _ rfl rfl rfl]
                exact Steps.refl _
              · show Q1 p0 u0 u1 u2 u3 u4 u5 u6 u7 u8 u9 u10 u11 h0 n0 _ T25.heap _
                rw [e25]
                exact ⟨(by rw [ofV, if_neg hc25, if_neg hc25_1, if_neg hc25_2, if_neg hc25_3, if_neg hc25_4, if_pos hc25_5]), N1, KK1⟩
            · obtain ⟨cl27, Ar27, -, S27, Nn27, Hh27, -⟩ := id V1
              have hin27 : ¬ ((6 : Int32) < 0 ∨ cl27.slots.size ≤ ((6 : Int32)).toNatClampNeg) := inb_of S27 ⟨by decide, by decide⟩
              have hat27 : cl27.slots[((6 : Int32)).toNatClampNeg]? = some (.ref u6) := Hh27.at hin27 rfl
              have f28 := (F6.keep K1 (by simp))
              obtain ⟨T29, X29, e29, st29⟩ := getF X25 hx hZ hown (host := "") (Or.inl (hw _ (List.mem_of_getElem? (i := 31) rfl))) Via.refl e25 f28 (g := (mkF m 21 #[.val (.int p0), .val (.ref bv1), .val (.int (12 : Int32)), .val (.int (6 : Int32)), .val (.ref u6)] [(.ref u6)])) rfl rfl (hb hby d1_21)
              have pre30 : ∀ t, Steps p.tables e below (T29.setTop (mkF m 25 #[.val (.int p0), .val (.ref bv1), .val (.int (12 : Int32)), .val (.int (6 : Int32)), .val (.ref u6)] [(.int p0), (.int (7 : Int32))])) t → Steps p.tables e below (s₁.setTop (entryFrame m #[(.int p0)] 5)) t := fun t kt => pre26 t (by
                  show Steps p.tables e below (T25.setTop (mkF m 25 #[.val (.int p0), .val (.ref bv1), .val (.int (12 : Int32)), .val (.int (5 : Int32)), .val (.ref u5)] [(.int p0), (.int (6 : Int32))])) _
                  refine XS.icmpYes X25.here hx rfl (pc0 := 25) (pc' := 31) rfl (hb hby d1_25) rfl (feq (show ¬ ((6 : Int32) = p0) from hc25_5)).2 (by decide) (by decide) ?_
                  show Steps p.tables e below (T25.setTop (mkF m 31 #[.val (.int p0), .val (.ref bv1), .val (.int (12 : Int32)), .val (.int (5 : Int32)), .val (.ref u5)] [])) _
                  refine XS.iinc X25.here hx rfl (hb hby d1_31) rfl (l' := #[.val (.int p0), .val (.ref bv1), .val (.int (12 : Int32)), .val (.int (6 : Int32)), .val (.ref u5)]) rfl ?_
                  show Steps p.tables e below (T25.setTop (mkF m 34 #[.val (.int p0), .val (.ref bv1), .val (.int (12 : Int32)), .val (.int (6 : Int32)), .val (.ref u5)] [])) _
                  refine XS.goto X25.here hx rfl (pc0 := 34) (pc' := 9) rfl (hb hby d1_34) (by decide) (by decide) ?_
                  show Steps p.tables e below (T25.setTop (mkF m 9 #[.val (.int p0), .val (.ref bv1), .val (.int (12 : Int32)), .val (.int (6 : Int32)), .val (.ref u5)] [])) _
                  refine XS.iloadN X25.here hx rfl (hb hby d1_9) rfl ?_
                  show Steps p.tables e below (T25.setTop (mkF m 10 #[.val (.int p0), .val (.ref bv1), .val (.int (12 : Int32)), .val (.int (6 : Int32)), .val (.ref u5)] [(.int (6 : Int32))])) _
                  refine XS.iloadN X25.here hx rfl (hb hby d1_10) rfl ?_
                  show Steps p.tables e below (T25.setTop (mkF m 11 #[.val (.int p0), .val (.ref bv1), .val (.int (12 : Int32)), .val (.int (6 : Int32)), .val (.ref u5)] [(.int (12 : Int32)), (.int (6 : Int32))])) _
                  refine XS.icmpNo X25.here hx rfl (hb hby d1_11) rfl (tlt (show (6 : Int32) < (12 : Int32) from (by decide))).2.1 ?_
                  show Steps p.tables e below (T25.setTop (mkF m 14 #[.val (.int p0), .val (.ref bv1), .val (.int (12 : Int32)), .val (.int (6 : Int32)), .val (.ref u5)] [])) _
                  refine XS.aloadN X25.here hx rfl (hb hby d1_14) rfl rfl ?_
                  show Steps p.tables e below (T25.setTop (mkF m 15 #[.val (.int p0), .val (.ref bv1), .val (.int (12 : Int32)), .val (.int (6 : Int32)), .val (.ref u5)] [(.ref bv1)])) _
                  refine XS.iloadN X25.here hx rfl (hb hby d1_15) rfl ?_
                  show Steps p.tables e below (T25.setTop (mkF m 16 #[.val (.int p0), .val (.ref bv1), .val (.int (12 : Int32)), .val (.int (6 : Int32)), .val (.ref u5)] [(.int (6 : Int32)), (.ref bv1)])) _
                  refine X25.aaload hx (j := (6 : Int32)) (v := (.ref u6)) (by rw [e25]; exact Ar27.1) (State.isArrayOf_alike hZ.alike Ar27.2.1) rfl Ar27.2.2 hin27 hat27 (g := (mkF m 16 #[.val (.int p0), .val (.ref bv1), .val (.int (12 : Int32)), .val (.int (6 : Int32)), .val (.ref u5)] [(.int (6 : Int32)), (.ref bv1)])) rfl rfl (hb hby d1_16) _ ?_
                  show Steps p.tables e below (T25.setTop (mkF m 17 #[.val (.int p0), .val (.ref bv1), .val (.int (12 : Int32)), .val (.int (6 : Int32)), .val (.ref u5)] [(.ref u6)])) _
                  refine XS.astore X25.here hx rfl (hb hby d1_17) rfl rfl (l' := #[.val (.int p0), .val (.ref bv1), .val (.int (12 : Int32)), .val (.int (6 : Int32)), .val (.ref u6)]) rfl ?_
                  show Steps p.tables e below (T25.setTop (mkF m 19 #[.val (.int p0), .val (.ref bv1), .val (.int (12 : Int32)), .val (.int (6 : Int32)), .val (.ref u6)] [])) _
                  refine XS.aload X25.here hx rfl (hb hby d1_19) rfl rfl ?_
                  show Steps p.tables e below (T25.setTop (mkF m 21 #[.val (.int p0), .val (.ref bv1), .val (.int (12 : Int32)), .val (.int (6 : Int32)), .val (.ref u6)] [(.ref u6)])) _
                  refine st29 _ ?_
                  show Steps p.tables e below (T29.setTop (mkF m 24 #[.val (.int p0), .val (.ref bv1), .val (.int (12 : Int32)), .val (.int (6 : Int32)), .val (.ref u6)] [(.int (7 : Int32))])) _
                  refine XS.iloadN X29.here hx rfl (hb hby d1_24) rfl ?_
                  exact kt)
              by_cases hc25_6 : (7 : Int32) = p0
              · obtain ⟨fs, hr, hrun, hended, hW, hsame⟩ := X29.leave (v := some (.ref u6)) (fun h => by rw [Bd.returns] at h; cases h)
                refine ⟨_, _, pre30 _ ?_, hrun, hended, _, _, rfl, ?_, ⟨_, rfl⟩, hW, hsame.mono (by decide) (by decide)⟩
                · show Steps p.tables e below (T29.setTop (mkF m 25 #[.val (.int p0), .val (.ref bv1), .val (.int (12 : Int32)), .val (.int (6 : Int32)), .val (.ref u6)] [(.int p0), (.int (7 : Int32))])) _
                  refine XS.icmpNo X29.here hx rfl (hb hby d1_25) rfl (teq (show (7 : Int32) = p0 from hc25_6)).2 ?_
                  show Steps p.tables e below (T29.setTop (mkF m 28 #[.val (.int p0), .val (.ref bv1), .val (.int (12 : Int32)), .val (.int (6 : Int32)), .val (.ref u6)] [])) _
                  refine XS.aload X29.here hx rfl (hb hby d1_28) rfl rfl ?_
                  show Steps p.tables e below (T29.setTop (mkF m 30 #[.val (.int p0), .val (.ref bv1), .val (.int (12 : Int32)), .val (.int (6 : Int32)), .val (.ref u6)] [(.ref u6)])) _
                  jvm_step X29.here [X29.here.top, hx, (hb hby d1_30), X29.method', Bd.returns, Value.isRef, FieldType.isReference]
                  first | (intro acts; rw [hr _ acts rfl rfl rfl]) | rw [hr _ _ rfl rfl rfl]
                  exact Steps.refl _
                · show Q1 p0 u0 u1 u2 u3 u4 u5 u6 u7 u8 u9 u10 u11 h0 n0 _ T29.heap _
                  rw [e29]
                  exact ⟨(by rw [ofV, if_neg hc25, if_neg hc25_1, if_neg hc25_2, if_neg hc25_3, if_neg hc25_4, if_neg hc25_5, if_pos hc25_6]), N1, KK1⟩
              · obtain ⟨cl31, Ar31, -, S31, Nn31, Hh31, -⟩ := id V1
                have hin31 : ¬ ((7 : Int32) < 0 ∨ cl31.slots.size ≤ ((7 : Int32)).toNatClampNeg) := inb_of S31 ⟨by decide, by decide⟩
                have hat31 : cl31.slots[((7 : Int32)).toNatClampNeg]? = some (.ref u7) := Hh31.at hin31 rfl
                have f32 := (F7.keep K1 (by simp))
                obtain ⟨T33, X33, e33, st33⟩ := getF X29 hx hZ hown (host := "") (Or.inl (hw _ (List.mem_of_getElem? (i := 31) rfl))) Via.refl e29 f32 (g := (mkF m 21 #[.val (.int p0), .val (.ref bv1), .val (.int (12 : Int32)), .val (.int (7 : Int32)), .val (.ref u7)] [(.ref u7)])) rfl rfl (hb hby d1_21)
                have pre34 : ∀ t, Steps p.tables e below (T33.setTop (mkF m 25 #[.val (.int p0), .val (.ref bv1), .val (.int (12 : Int32)), .val (.int (7 : Int32)), .val (.ref u7)] [(.int p0), (.int (8 : Int32))])) t → Steps p.tables e below (s₁.setTop (entryFrame m #[(.int p0)] 5)) t := fun t kt => pre30 t (by
                    show Steps p.tables e below (T29.setTop (mkF m 25 #[.val (.int p0), .val (.ref bv1), .val (.int (12 : Int32)), .val (.int (6 : Int32)), .val (.ref u6)] [(.int p0), (.int (7 : Int32))])) _
                    refine XS.icmpYes X29.here hx rfl (pc0 := 25) (pc' := 31) rfl (hb hby d1_25) rfl (feq (show ¬ ((7 : Int32) = p0) from hc25_6)).2 (by decide) (by decide) ?_
                    show Steps p.tables e below (T29.setTop (mkF m 31 #[.val (.int p0), .val (.ref bv1), .val (.int (12 : Int32)), .val (.int (6 : Int32)), .val (.ref u6)] [])) _
                    refine XS.iinc X29.here hx rfl (hb hby d1_31) rfl (l' := #[.val (.int p0), .val (.ref bv1), .val (.int (12 : Int32)), .val (.int (7 : Int32)), .val (.ref u6)]) rfl ?_
                    show Steps p.tables e below (T29.setTop (mkF m 34 #[.val (.int p0), .val (.ref bv1), .val (.int (12 : Int32)), .val (.int (7 : Int32)), .val (.ref u6)] [])) _
                    refine XS.goto X29.here hx rfl (pc0 := 34) (pc' := 9) rfl (hb hby d1_34) (by decide) (by decide) ?_
                    show Steps p.tables e below (T29.setTop (mkF m 9 #[.val (.int p0), .val (.ref bv1), .val (.int (12 : Int32)), .val (.int (7 : Int32)), .val (.ref u6)] [])) _
                    refine XS.iloadN X29.here hx rfl (hb hby d1_9) rfl ?_
                    show Steps p.tables e below (T29.setTop (mkF m 10 #[.val (.int p0), .val (.ref bv1), .val (.int (12 : Int32)), .val (.int (7 : Int32)), .val (.ref u6)] [(.int (7 : Int32))])) _
                    refine XS.iloadN X29.here hx rfl (hb hby d1_10) rfl ?_
                    show Steps p.tables e below (T29.setTop (mkF m 11 #[.val (.int p0), .val (.ref bv1), .val (.int (12 : Int32)), .val (.int (7 : Int32)), .val (.ref u6)] [(.int (12 : Int32)), (.int (7 : Int32))])) _
                    refine XS.icmpNo X29.here hx rfl (hb hby d1_11) rfl (tlt (show (7 : Int32) < (12 : Int32) from (by decide))).2.1 ?_
                    show Steps p.tables e below (T29.setTop (mkF m 14 #[.val (.int p0), .val (.ref bv1), .val (.int (12 : Int32)), .val (.int (7 : Int32)), .val (.ref u6)] [])) _
                    refine XS.aloadN X29.here hx rfl (hb hby d1_14) rfl rfl ?_
                    show Steps p.tables e below (T29.setTop (mkF m 15 #[.val (.int p0), .val (.ref bv1), .val (.int (12 : Int32)), .val (.int (7 : Int32)), .val (.ref u6)] [(.ref bv1)])) _
                    refine XS.iloadN X29.here hx rfl (hb hby d1_15) rfl ?_
                    show Steps p.tables e below (T29.setTop (mkF m 16 #[.val (.int p0), .val (.ref bv1), .val (.int (12 : Int32)), .val (.int (7 : Int32)), .val (.ref u6)] [(.int (7 : Int32)), (.ref bv1)])) _
                    refine X29.aaload hx (j := (7 : Int32)) (v := (.ref u7)) (by rw [e29]; exact Ar31.1) (State.isArrayOf_alike hZ.alike Ar31.2.1) rfl Ar31.2.2 hin31 hat31 (g := (mkF m 16 #[.val (.int p0), .val (.ref bv1), .val (.int (12 : Int32)), .val (.int (7 : Int32)), .val (.ref u6)] [(.int (7 : Int32)), (.ref bv1)])) rfl rfl (hb hby d1_16) _ ?_
                    show Steps p.tables e below (T29.setTop (mkF m 17 #[.val (.int p0), .val (.ref bv1), .val (.int (12 : Int32)), .val (.int (7 : Int32)), .val (.ref u6)] [(.ref u7)])) _
                    refine XS.astore X29.here hx rfl (hb hby d1_17) rfl rfl (l' := #[.val (.int p0), .val (.ref bv1), .val (.int (12 : Int32)), .val (.int (7 : Int32)), .val (.ref u7)]) rfl ?_
                    show Steps p.tables e below (T29.setTop (mkF m 19 #[.val (.int p0), .val (.ref bv1), .val (.int (12 : Int32)), .val (.int (7 : Int32)), .val (.ref u7)] [])) _
                    refine XS.aload X29.here hx rfl (hb hby d1_19) rfl rfl ?_
                    show Steps p.tables e below (T29.setTop (mkF m 21 #[.val (.int p0), .val (.ref bv1), .val (.int (12 : Int32)), .val (.int (7 : Int32)), .val (.ref u7)] [(.ref u7)])) _
                    refine st33 _ ?_
                    show Steps p.tables e below (T33.setTop (mkF m 24 #[.val (.int p0), .val (.ref bv1), .val (.int (12 : Int32)), .val (.int (7 : Int32)), .val (.ref u7)] [(.int (8 : Int32))])) _
                    refine XS.iloadN X33.here hx rfl (hb hby d1_24) rfl ?_
                    exact kt)
                by_cases hc25_7 : (8 : Int32) = p0
                · obtain ⟨fs, hr, hrun, hended, hW, hsame⟩ := X33.leave (v := some (.ref u7)) (fun h => by rw [Bd.returns] at h; cases h)
                  refine ⟨_, _, pre34 _ ?_, hrun, hended, _, _, rfl, ?_, ⟨_, rfl⟩, hW, hsame.mono (by decide) (by decide)⟩
                  · show Steps p.tables e below (T33.setTop (mkF m 25 #[.val (.int p0), .val (.ref bv1), .val (.int (12 : Int32)), .val (.int (7 : Int32)), .val (.ref u7)] [(.int p0), (.int (8 : Int32))])) _
                    refine XS.icmpNo X33.here hx rfl (hb hby d1_25) rfl (teq (show (8 : Int32) = p0 from hc25_7)).2 ?_
                    show Steps p.tables e below (T33.setTop (mkF m 28 #[.val (.int p0), .val (.ref bv1), .val (.int (12 : Int32)), .val (.int (7 : Int32)), .val (.ref u7)] [])) _
                    refine XS.aload X33.here hx rfl (hb hby d1_28) rfl rfl ?_
                    show Steps p.tables e below (T33.setTop (mkF m 30 #[.val (.int p0), .val (.ref bv1), .val (.int (12 : Int32)), .val (.int (7 : Int32)), .val (.ref u7)] [(.ref u7)])) _
                    jvm_step X33.here [X33.here.top, hx, (hb hby d1_30), X33.method', Bd.returns, Value.isRef, FieldType.isReference]
                    first | (intro acts; rw [hr _ acts rfl rfl rfl]) | rw [hr _ _ rfl rfl rfl]
                    exact Steps.refl _
                  · show Q1 p0 u0 u1 u2 u3 u4 u5 u6 u7 u8 u9 u10 u11 h0 n0 _ T33.heap _
                    rw [e33]
                    exact ⟨(by rw [ofV, if_neg hc25, if_neg hc25_1, if_neg hc25_2, if_neg hc25_3, if_neg hc25_4, if_neg hc25_5, if_neg hc25_6, if_pos hc25_7]), N1, KK1⟩
                · obtain ⟨cl35, Ar35, -, S35, Nn35, Hh35, -⟩ := id V1
                  have hin35 : ¬ ((8 : Int32) < 0 ∨ cl35.slots.size ≤ ((8 : Int32)).toNatClampNeg) := inb_of S35 ⟨by decide, by decide⟩
                  have hat35 : cl35.slots[((8 : Int32)).toNatClampNeg]? = some (.ref u8) := Hh35.at hin35 rfl
                  have f36 := (F8.keep K1 (by simp))
                  obtain ⟨T37, X37, e37, st37⟩ := getF X33 hx hZ hown (host := "") (Or.inl (hw _ (List.mem_of_getElem? (i := 31) rfl))) Via.refl e33 f36 (g := (mkF m 21 #[.val (.int p0), .val (.ref bv1), .val (.int (12 : Int32)), .val (.int (8 : Int32)), .val (.ref u8)] [(.ref u8)])) rfl rfl (hb hby d1_21)
                  have pre38 : ∀ t, Steps p.tables e below (T37.setTop (mkF m 25 #[.val (.int p0), .val (.ref bv1), .val (.int (12 : Int32)), .val (.int (8 : Int32)), .val (.ref u8)] [(.int p0), (.int (9 : Int32))])) t → Steps p.tables e below (s₁.setTop (entryFrame m #[(.int p0)] 5)) t := fun t kt => pre34 t (by
                      show Steps p.tables e below (T33.setTop (mkF m 25 #[.val (.int p0), .val (.ref bv1), .val (.int (12 : Int32)), .val (.int (7 : Int32)), .val (.ref u7)] [(.int p0), (.int (8 : Int32))])) _
                      refine XS.icmpYes X33.here hx rfl (pc0 := 25) (pc' := 31) rfl (hb hby d1_25) rfl (feq (show ¬ ((8 : Int32) = p0) from hc25_7)).2 (by decide) (by decide) ?_
                      show Steps p.tables e below (T33.setTop (mkF m 31 #[.val (.int p0), .val (.ref bv1), .val (.int (12 : Int32)), .val (.int (7 : Int32)), .val (.ref u7)] [])) _
                      refine XS.iinc X33.here hx rfl (hb hby d1_31) rfl (l' := #[.val (.int p0), .val (.ref bv1), .val (.int (12 : Int32)), .val (.int (8 : Int32)), .val (.ref u7)]) rfl ?_
                      show Steps p.tables e below (T33.setTop (mkF m 34 #[.val (.int p0), .val (.ref bv1), .val (.int (12 : Int32)), .val (.int (8 : Int32)), .val (.ref u7)] [])) _
                      refine XS.goto X33.here hx rfl (pc0 := 34) (pc' := 9) rfl (hb hby d1_34) (by decide) (by decide) ?_
                      show Steps p.tables e below (T33.setTop (mkF m 9 #[.val (.int p0), .val (.ref bv1), .val (.int (12 : Int32)), .val (.int (8 : Int32)), .val (.ref u7)] [])) _
                      refine XS.iloadN X33.here hx rfl (hb hby d1_9) rfl ?_
                      show Steps p.tables e below (T33.setTop (mkF m 10 #[.val (.int p0), .val (.ref bv1), .val (.int (12 : Int32)), .val (.int (8 : Int32)), .val (.ref u7)] [(.int (8 : Int32))])) _
                      refine XS.iloadN X33.here hx rfl (hb hby d1_10) rfl ?_
                      show Steps p.tables e below (T33.setTop (mkF m 11 #[.val (.int p0), .val (.ref bv1), .val (.int (12 : Int32)), .val (.int (8 : Int32)), .val (.ref u7)] [(.int (12 : Int32)), (.int (8 : Int32))])) _
                      refine XS.icmpNo X33.here hx rfl (hb hby d1_11) rfl (tlt (show (8 : Int32) < (12 : Int32) from (by decide))).2.1 ?_
                      show Steps p.tables e below (T33.setTop (mkF m 14 #[.val (.int p0), .val (.ref bv1), .val (.int (12 : Int32)), .val (.int (8 : Int32)), .val (.ref u7)] [])) _
                      refine XS.aloadN X33.here hx rfl (hb hby d1_14) rfl rfl ?_
                      show Steps p.tables e below (T33.setTop (mkF m 15 #[.val (.int p0), .val (.ref bv1), .val (.int (12 : Int32)), .val (.int (8 : Int32)), .val (.ref u7)] [(.ref bv1)])) _
                      refine XS.iloadN X33.here hx rfl (hb hby d1_15) rfl ?_
                      show Steps p.tables e below (T33.setTop (mkF m 16 #[.val (.int p0), .val (.ref bv1), .val (.int (12 : Int32)), .val (.int (8 : Int32)), .val (.ref u7)] [(.int (8 : Int32)), (.ref bv1)])) _
                      refine X33.aaload hx (j := (8 : Int32)) (v := (.ref u8)) (by rw [e33]; exact Ar35.1) (State.isArrayOf_alike hZ.alike Ar35.2.1) rfl Ar35.2.2 hin35 hat35 (g := (mkF m 16 #[.val (.int p0), .val (.ref bv1), .val (.int (12 : Int32)), .val (.int (8 : Int32)), .val (.ref u7)] [(.int (8 : Int32)), (.ref bv1)])) rfl rfl (hb hby d1_16) _ ?_
                      show Steps p.tables e below (T33.setTop (mkF m 17 #[.val (.int p0), .val (.ref bv1), .val (.int (12 : Int32)), .val (.int (8 : Int32)), .val (.ref u7)] [(.ref u8)])) _
                      refine XS.astore X33.here hx rfl (hb hby d1_17) rfl rfl (l' := #[.val (.int p0), .val (.ref bv1), .val (.int (12 : Int32)), .val (.int (8 : Int32)), .val (.ref u8)]) rfl ?_
                      show Steps p.tables e below (T33.setTop (mkF m 19 #[.val (.int p0), .val (.ref bv1), .val (.int (12 : Int32)), .val (.int (8 : Int32)), .val (.ref u8)] [])) _
                      refine XS.aload X33.here hx rfl (hb hby d1_19) rfl rfl ?_
                      show Steps p.tables e below (T33.setTop (mkF m 21 #[.val (.int p0), .val (.ref bv1), .val (.int (12 : Int32)), .val (.int (8 : Int32)), .val (.ref u8)] [(.ref u8)])) _
                      refine st37 _ ?_
                      show Steps p.tables e below (T37.setTop (mkF m 24 #[.val (.int p0), .val (.ref bv1), .val (.int (12 : Int32)), .val (.int (8 : Int32)), .val (.ref u8)] [(.int (9 : Int32))])) _
                      refine XS.iloadN X37.here hx rfl (hb hby d1_24) rfl ?_
                      exact kt)
                  by_cases hc25_8 : (9 : Int32) = p0
                  · obtain ⟨fs, hr, hrun, hended, hW, hsame⟩ := X37.leave (v := some (.ref u8)) (fun h => by rw [Bd.returns] at h; cases h)
                    refine ⟨_, _, pre38 _ ?_, hrun, hended, _, _, rfl, ?_, ⟨_, rfl⟩, hW, hsame.mono (by decide) (by decide)⟩
                    · show Steps p.tables e below (T37.setTop (mkF m 25 #[.val (.int p0), .val (.ref bv1), .val (.int (12 : Int32)), .val (.int (8 : Int32)), .val (.ref u8)] [(.int p0), (.int (9 : Int32))])) _
                      refine XS.icmpNo X37.here hx rfl (hb hby d1_25) rfl (teq (show (9 : Int32) = p0 from hc25_8)).2 ?_
                      show Steps p.tables e below (T37.setTop (mkF m 28 #[.val (.int p0), .val (.ref bv1), .val (.int (12 : Int32)), .val (.int (8 : Int32)), .val (.ref u8)] [])) _
                      refine XS.aload X37.here hx rfl (hb hby d1_28) rfl rfl ?_
                      show Steps p.tables e below (T37.setTop (mkF m 30 #[.val (.int p0), .val (.ref bv1), .val (.int (12 : Int32)), .val (.int (8 : Int32)), .val (.ref u8)] [(.ref u8)])) _
                      jvm_step X37.here [X37.here.top, hx, (hb hby d1_30), X37.method', Bd.returns, Value.isRef, FieldType.isReference]
                      first | (intro acts; rw [hr _ acts rfl rfl rfl]) | rw [hr _ _ rfl rfl rfl]
                      exact Steps.refl _
                    · show Q1 p0 u0 u1 u2 u3 u4 u5 u6 u7 u8 u9 u10 u11 h0 n0 _ T37.heap _
                      rw [e37]
                      exact ⟨(by rw [ofV, if_neg hc25, if_neg hc25_1, if_neg hc25_2, if_neg hc25_3, if_neg hc25_4, if_neg hc25_5, if_neg hc25_6, if_neg hc25_7, if_pos hc25_8]), N1, KK1⟩
                  · obtain ⟨cl39, Ar39, -, S39, Nn39, Hh39, -⟩ := id V1
                    have hin39 : ¬ ((9 : Int32) < 0 ∨ cl39.slots.size ≤ ((9 : Int32)).toNatClampNeg) := inb_of S39 ⟨by decide, by decide⟩
                    have hat39 : cl39.slots[((9 : Int32)).toNatClampNeg]? = some (.ref u9) := Hh39.at hin39 rfl
                    have f40 := (F9.keep K1 (by simp))
                    obtain ⟨T41, X41, e41, st41⟩ := getF X37 hx hZ hown (host := "") (Or.inl (hw _ (List.mem_of_getElem? (i := 31) rfl))) Via.refl e37 f40 (g := (mkF m 21 #[.val (.int p0), .val (.ref bv1), .val (.int (12 : Int32)), .val (.int (9 : Int32)), .val (.ref u9)] [(.ref u9)])) rfl rfl (hb hby d1_21)
                    have pre42 : ∀ t, Steps p.tables e below (T41.setTop (mkF m 25 #[.val (.int p0), .val (.ref bv1), .val (.int (12 : Int32)), .val (.int (9 : Int32)), .val (.ref u9)] [(.int p0), (.int (10 : Int32))])) t → Steps p.tables e below (s₁.setTop (entryFrame m #[(.int p0)] 5)) t := fun t kt => pre38 t (by
                        show Steps p.tables e below (T37.setTop (mkF m 25 #[.val (.int p0), .val (.ref bv1), .val (.int (12 : Int32)), .val (.int (8 : Int32)), .val (.ref u8)] [(.int p0), (.int (9 : Int32))])) _
                        refine XS.icmpYes X37.here hx rfl (pc0 := 25) (pc' := 31) rfl (hb hby d1_25) rfl (feq (show ¬ ((9 : Int32) = p0) from hc25_8)).2 (by decide) (by decide) ?_
                        show Steps p.tables e below (T37.setTop (mkF m 31 #[.val (.int p0), .val (.ref bv1), .val (.int (12 : Int32)), .val (.int (8 : Int32)), .val (.ref u8)] [])) _
                        refine XS.iinc X37.here hx rfl (hb hby d1_31) rfl (l' := #[.val (.int p0), .val (.ref bv1), .val (.int (12 : Int32)), .val (.int (9 : Int32)), .val (.ref u8)]) rfl ?_
                        show Steps p.tables e below (T37.setTop (mkF m 34 #[.val (.int p0), .val (.ref bv1), .val (.int (12 : Int32)), .val (.int (9 : Int32)), .val (.ref u8)] [])) _
                        refine XS.goto X37.here hx rfl (pc0 := 34) (pc' := 9) rfl (hb hby d1_34) (by decide) (by decide) ?_
                        show Steps p.tables e below (T37.setTop (mkF m 9 #[.val (.int p0), .val (.ref bv1), .val (.int (12 : Int32)), .val (.int (9 : Int32)), .val (.ref u8)] [])) _
                        refine XS.iloadN X37.here hx rfl (hb hby d1_9) rfl ?_
                        show Steps p.tables e below (T37.setTop (mkF m 10 #[.val (.int p0), .val (.ref bv1), .val (.int (12 : Int32)), .val (.int (9 : Int32)), .val (.ref u8)] [(.int (9 : Int32))])) _
                        refine XS.iloadN X37.here hx rfl (hb hby d1_10) rfl ?_
                        show Steps p.tables e below (T37.setTop (mkF m 11 #[.val (.int p0), .val (.ref bv1), .val (.int (12 : Int32)), .val (.int (9 : Int32)), .val (.ref u8)] [(.int (12 : Int32)), (.int (9 : Int32))])) _
                        refine XS.icmpNo X37.here hx rfl (hb hby d1_11) rfl (tlt (show (9 : Int32) < (12 : Int32) from (by decide))).2.1 ?_
                        show Steps p.tables e below (T37.setTop (mkF m 14 #[.val (.int p0), .val (.ref bv1), .val (.int (12 : Int32)), .val (.int (9 : Int32)), .val (.ref u8)] [])) _
                        refine XS.aloadN X37.here hx rfl (hb hby d1_14) rfl rfl ?_
                        show Steps p.tables e below (T37.setTop (mkF m 15 #[.val (.int p0), .val (.ref bv1), .val (.int (12 : Int32)), .val (.int (9 : Int32)), .val (.ref u8)] [(.ref bv1)])) _
                        refine XS.iloadN X37.here hx rfl (hb hby d1_15) rfl ?_
                        show Steps p.tables e below (T37.setTop (mkF m 16 #[.val (.int p0), .val (.ref bv1), .val (.int (12 : Int32)), .val (.int (9 : Int32)), .val (.ref u8)] [(.int (9 : Int32)), (.ref bv1)])) _
                        refine X37.aaload hx (j := (9 : Int32)) (v := (.ref u9)) (by rw [e37]; exact Ar39.1) (State.isArrayOf_alike hZ.alike Ar39.2.1) rfl Ar39.2.2 hin39 hat39 (g := (mkF m 16 #[.val (.int p0), .val (.ref bv1), .val (.int (12 : Int32)), .val (.int (9 : Int32)), .val (.ref u8)] [(.int (9 : Int32)), (.ref bv1)])) rfl rfl (hb hby d1_16) _ ?_
                        show Steps p.tables e below (T37.setTop (mkF m 17 #[.val (.int p0), .val (.ref bv1), .val (.int (12 : Int32)), .val (.int (9 : Int32)), .val (.ref u8)] [(.ref u9)])) _
                        refine XS.astore X37.here hx rfl (hb hby d1_17) rfl rfl (l' := #[.val (.int p0), .val (.ref bv1), .val (.int (12 : Int32)), .val (.int (9 : Int32)), .val (.ref u9)]) rfl ?_
                        show Steps p.tables e below (T37.setTop (mkF m 19 #[.val (.int p0), .val (.ref bv1), .val (.int (12 : Int32)), .val (.int (9 : Int32)), .val (.ref u9)] [])) _
                        refine XS.aload X37.here hx rfl (hb hby d1_19) rfl rfl ?_
                        show Steps p.tables e below (T37.setTop (mkF m 21 #[.val (.int p0), .val (.ref bv1), .val (.int (12 : Int32)), .val (.int (9 : Int32)), .val (.ref u9)] [(.ref u9)])) _
                        refine st41 _ ?_
                        show Steps p.tables e below (T41.setTop (mkF m 24 #[.val (.int p0), .val (.ref bv1), .val (.int (12 : Int32)), .val (.int (9 : Int32)), .val (.ref u9)] [(.int (10 : Int32))])) _
                        refine XS.iloadN X41.here hx rfl (hb hby d1_24) rfl ?_
                        exact kt)
                    by_cases hc25_9 : (10 : Int32) = p0
                    · obtain ⟨fs, hr, hrun, hended, hW, hsame⟩ := X41.leave (v := some (.ref u9)) (fun h => by rw [Bd.returns] at h; cases h)
                      refine ⟨_, _, pre42 _ ?_, hrun, hended, _, _, rfl, ?_, ⟨_, rfl⟩, hW, hsame.mono (by decide) (by decide)⟩
                      · show Steps p.tables e below (T41.setTop (mkF m 25 #[.val (.int p0), .val (.ref bv1), .val (.int (12 : Int32)), .val (.int (9 : Int32)), .val (.ref u9)] [(.int p0), (.int (10 : Int32))])) _
                        refine XS.icmpNo X41.here hx rfl (hb hby d1_25) rfl (teq (show (10 : Int32) = p0 from hc25_9)).2 ?_
                        show Steps p.tables e below (T41.setTop (mkF m 28 #[.val (.int p0), .val (.ref bv1), .val (.int (12 : Int32)), .val (.int (9 : Int32)), .val (.ref u9)] [])) _
                        refine XS.aload X41.here hx rfl (hb hby d1_28) rfl rfl ?_
                        show Steps p.tables e below (T41.setTop (mkF m 30 #[.val (.int p0), .val (.ref bv1), .val (.int (12 : Int32)), .val (.int (9 : Int32)), .val (.ref u9)] [(.ref u9)])) _
                        jvm_step X41.here [X41.here.top, hx, (hb hby d1_30), X41.method', Bd.returns, Value.isRef, FieldType.isReference]
                        first | (intro acts; rw [hr _ acts rfl rfl rfl]) | rw [hr _ _ rfl rfl rfl]
                        exact Steps.refl _
                      · show Q1 p0 u0 u1 u2 u3 u4 u5 u6 u7 u8 u9 u10 u11 h0 n0 _ T41.heap _
                        rw [e41]
                        exact ⟨(by rw [ofV, if_neg hc25, if_neg hc25_1, if_neg hc25_2, if_neg hc25_3, if_neg hc25_4, if_neg hc25_5, if_neg hc25_6, if_neg hc25_7, if_neg hc25_8, if_pos hc25_9]), N1, KK1⟩
                    · obtain ⟨cl43, Ar43, -, S43, Nn43, Hh43, -⟩ := id V1
                      have hin43 : ¬ ((10 : Int32) < 0 ∨ cl43.slots.size ≤ ((10 : Int32)).toNatClampNeg) := inb_of S43 ⟨by decide, by decide⟩
                      have hat43 : cl43.slots[((10 : Int32)).toNatClampNeg]? = some (.ref u10) := Hh43.at hin43 rfl
                      have f44 := (F10.keep K1 (by simp))
                      obtain ⟨T45, X45, e45, st45⟩ := getF X41 hx hZ hown (host := "") (Or.inl (hw _ (List.mem_of_getElem? (i := 31) rfl))) Via.refl e41 f44 (g := (mkF m 21 #[.val (.int p0), .val (.ref bv1), .val (.int (12 : Int32)), .val (.int (10 : Int32)), .val (.ref u10)] [(.ref u10)])) rfl rfl (hb hby d1_21)
                      have pre46 : ∀ t, Steps p.tables e below (T45.setTop (mkF m 25 #[.val (.int p0), .val (.ref bv1), .val (.int (12 : Int32)), .val (.int (10 : Int32)), .val (.ref u10)] [(.int p0), (.int (11 : Int32))])) t → Steps p.tables e below (s₁.setTop (entryFrame m #[(.int p0)] 5)) t := fun t kt => pre42 t (by
                          show Steps p.tables e below (T41.setTop (mkF m 25 #[.val (.int p0), .val (.ref bv1), .val (.int (12 : Int32)), .val (.int (9 : Int32)), .val (.ref u9)] [(.int p0), (.int (10 : Int32))])) _
                          refine XS.icmpYes X41.here hx rfl (pc0 := 25) (pc' := 31) rfl (hb hby d1_25) rfl (feq (show ¬ ((10 : Int32) = p0) from hc25_9)).2 (by decide) (by decide) ?_
                          show Steps p.tables e below (T41.setTop (mkF m 31 #[.val (.int p0), .val (.ref bv1), .val (.int (12 : Int32)), .val (.int (9 : Int32)), .val (.ref u9)] [])) _
                          refine XS.iinc X41.here hx rfl (hb hby d1_31) rfl (l' := #[.val (.int p0), .val (.ref bv1), .val (.int (12 : Int32)), .val (.int (10 : Int32)), .val (.ref u9)]) rfl ?_
                          show Steps p.tables e below (T41.setTop (mkF m 34 #[.val (.int p0), .val (.ref bv1), .val (.int (12 : Int32)), .val (.int (10 : Int32)), .val (.ref u9)] [])) _
                          refine XS.goto X41.here hx rfl (pc0 := 34) (pc' := 9) rfl (hb hby d1_34) (by decide) (by decide) ?_
                          show Steps p.tables e below (T41.setTop (mkF m 9 #[.val (.int p0), .val (.ref bv1), .val (.int (12 : Int32)), .val (.int (10 : Int32)), .val (.ref u9)] [])) _
                          refine XS.iloadN X41.here hx rfl (hb hby d1_9) rfl ?_
                          show Steps p.tables e below (T41.setTop (mkF m 10 #[.val (.int p0), .val (.ref bv1), .val (.int (12 : Int32)), .val (.int (10 : Int32)), .val (.ref u9)] [(.int (10 : Int32))])) _
                          refine XS.iloadN X41.here hx rfl (hb hby d1_10) rfl ?_
                          show Steps p.tables e below (T41.setTop (mkF m 11 #[.val (.int p0), .val (.ref bv1), .val (.int (12 : Int32)), .val (.int (10 : Int32)), .val (.ref u9)] [(.int (12 : Int32)), (.int (10 : Int32))])) _
                          refine XS.icmpNo X41.here hx rfl (hb hby d1_11) rfl (tlt (show (10 : Int32) < (12 : Int32) from (by decide))).2.1 ?_
                          show Steps p.tables e below (T41.setTop (mkF m 14 #[.val (.int p0), .val (.ref bv1), .val (.int (12 : Int32)), .val (.int (10 : Int32)), .val (.ref u9)] [])) _
                          refine XS.aloadN X41.here hx rfl (hb hby d1_14) rfl rfl ?_
                          show Steps p.tables e below (T41.setTop (mkF m 15 #[.val (.int p0), .val (.ref bv1), .val (.int (12 : Int32)), .val (.int (10 : Int32)), .val (.ref u9)] [(.ref bv1)])) _
                          refine XS.iloadN X41.here hx rfl (hb hby d1_15) rfl ?_
                          show Steps p.tables e below (T41.setTop (mkF m 16 #[.val (.int p0), .val (.ref bv1), .val (.int (12 : Int32)), .val (.int (10 : Int32)), .val (.ref u9)] [(.int (10 : Int32)), (.ref bv1)])) _
                          refine X41.aaload hx (j := (10 : Int32)) (v := (.ref u10)) (by rw [e41]; exact Ar43.1) (State.isArrayOf_alike hZ.alike Ar43.2.1) rfl Ar43.2.2 hin43 hat43 (g := (mkF m 16 #[.val (.int p0), .val (.ref bv1), .val (.int (12 : Int32)), .val (.int (10 : Int32)), .val (.ref u9)] [(.int (10 : Int32)), (.ref bv1)])) rfl rfl (hb hby d1_16) _ ?_
                          show Steps p.tables e below (T41.setTop (mkF m 17 #[.val (.int p0), .val (.ref bv1), .val (.int (12 : Int32)), .val (.int (10 : Int32)), .val (.ref u9)] [(.ref u10)])) _
                          refine XS.astore X41.here hx rfl (hb hby d1_17) rfl rfl (l' := #[.val (.int p0), .val (.ref bv1), .val (.int (12 : Int32)), .val (.int (10 : Int32)), .val (.ref u10)]) rfl ?_
                          show Steps p.tables e below (T41.setTop (mkF m 19 #[.val (.int p0), .val (.ref bv1), .val (.int (12 : Int32)), .val (.int (10 : Int32)), .val (.ref u10)] [])) _
                          refine XS.aload X41.here hx rfl (hb hby d1_19) rfl rfl ?_
                          show Steps p.tables e below (T41.setTop (mkF m 21 #[.val (.int p0), .val (.ref bv1), .val (.int (12 : Int32)), .val (.int (10 : Int32)), .val (.ref u10)] [(.ref u10)])) _
                          refine st45 _ ?_
                          show Steps p.tables e below (T45.setTop (mkF m 24 #[.val (.int p0), .val (.ref bv1), .val (.int (12 : Int32)), .val (.int (10 : Int32)), .val (.ref u10)] [(.int (11 : Int32))])) _
                          refine XS.iloadN X45.here hx rfl (hb hby d1_24) rfl ?_
                          exact kt)
                      by_cases hc25_10 : (11 : Int32) = p0
                      · obtain ⟨fs, hr, hrun, hended, hW, hsame⟩ := X45.leave (v := some (.ref u10)) (fun h => by rw [Bd.returns] at h; cases h)
                        refine ⟨_, _, pre46 _ ?_, hrun, hended, _, _, rfl, ?_, ⟨_, rfl⟩, hW, hsame.mono (by decide) (by decide)⟩
                        · show Steps p.tables e below (T45.setTop (mkF m 25 #[.val (.int p0), .val (.ref bv1), .val (.int (12 : Int32)), .val (.int (10 : Int32)), .val (.ref u10)] [(.int p0), (.int (11 : Int32))])) _
                          refine XS.icmpNo X45.here hx rfl (hb hby d1_25) rfl (teq (show (11 : Int32) = p0 from hc25_10)).2 ?_
                          show Steps p.tables e below (T45.setTop (mkF m 28 #[.val (.int p0), .val (.ref bv1), .val (.int (12 : Int32)), .val (.int (10 : Int32)), .val (.ref u10)] [])) _
                          refine XS.aload X45.here hx rfl (hb hby d1_28) rfl rfl ?_
                          show Steps p.tables e below (T45.setTop (mkF m 30 #[.val (.int p0), .val (.ref bv1), .val (.int (12 : Int32)), .val (.int (10 : Int32)), .val (.ref u10)] [(.ref u10)])) _
                          jvm_step X45.here [X45.here.top, hx, (hb hby d1_30), X45.method', Bd.returns, Value.isRef, FieldType.isReference]
                          first | (intro acts; rw [hr _ acts rfl rfl rfl]) | rw [hr _ _ rfl rfl rfl]
                          exact Steps.refl _
                        · show Q1 p0 u0 u1 u2 u3 u4 u5 u6 u7 u8 u9 u10 u11 h0 n0 _ T45.heap _
                          rw [e45]
                          exact ⟨(by rw [ofV, if_neg hc25, if_neg hc25_1, if_neg hc25_2, if_neg hc25_3, if_neg hc25_4, if_neg hc25_5, if_neg hc25_6, if_neg hc25_7, if_neg hc25_8, if_neg hc25_9, if_pos hc25_10]), N1, KK1⟩
                      · obtain ⟨cl47, Ar47, -, S47, Nn47, Hh47, -⟩ := id V1
                        have hin47 : ¬ ((11 : Int32) < 0 ∨ cl47.slots.size ≤ ((11 : Int32)).toNatClampNeg) := inb_of S47 ⟨by decide, by decide⟩
                        have hat47 : cl47.slots[((11 : Int32)).toNatClampNeg]? = some (.ref u11) := Hh47.at hin47 rfl
                        have f48 := (F11.keep K1 (by simp))
                        obtain ⟨T49, X49, e49, st49⟩ := getF X45 hx hZ hown (host := "") (Or.inl (hw _ (List.mem_of_getElem? (i := 31) rfl))) Via.refl e45 f48 (g := (mkF m 21 #[.val (.int p0), .val (.ref bv1), .val (.int (12 : Int32)), .val (.int (11 : Int32)), .val (.ref u11)] [(.ref u11)])) rfl rfl (hb hby d1_21)
                        have pre50 : ∀ t, Steps p.tables e below (T49.setTop (mkF m 25 #[.val (.int p0), .val (.ref bv1), .val (.int (12 : Int32)), .val (.int (11 : Int32)), .val (.ref u11)] [(.int p0), (.int (12 : Int32))])) t → Steps p.tables e below (s₁.setTop (entryFrame m #[(.int p0)] 5)) t := fun t kt => pre46 t (by
                            show Steps p.tables e below (T45.setTop (mkF m 25 #[.val (.int p0), .val (.ref bv1), .val (.int (12 : Int32)), .val (.int (10 : Int32)), .val (.ref u10)] [(.int p0), (.int (11 : Int32))])) _
                            refine XS.icmpYes X45.here hx rfl (pc0 := 25) (pc' := 31) rfl (hb hby d1_25) rfl (feq (show ¬ ((11 : Int32) = p0) from hc25_10)).2 (by decide) (by decide) ?_
                            show Steps p.tables e below (T45.setTop (mkF m 31 #[.val (.int p0), .val (.ref bv1), .val (.int (12 : Int32)), .val (.int (10 : Int32)), .val (.ref u10)] [])) _
                            refine XS.iinc X45.here hx rfl (hb hby d1_31) rfl (l' := #[.val (.int p0), .val (.ref bv1), .val (.int (12 : Int32)), .val (.int (11 : Int32)), .val (.ref u10)]) rfl ?_
                            show Steps p.tables e below (T45.setTop (mkF m 34 #[.val (.int p0), .val (.ref bv1), .val (.int (12 : Int32)), .val (.int (11 : Int32)), .val (.ref u10)] [])) _
                            refine XS.goto X45.here hx rfl (pc0 := 34) (pc' := 9) rfl (hb hby d1_34) (by decide) (by decide) ?_
                            show Steps p.tables e below (T45.setTop (mkF m 9 #[.val (.int p0), .val (.ref bv1), .val (.int (12 : Int32)), .val (.int (11 : Int32)), .val (.ref u10)] [])) _
                            refine XS.iloadN X45.here hx rfl (hb hby d1_9) rfl ?_
                            show Steps p.tables e below (T45.setTop (mkF m 10 #[.val (.int p0), .val (.ref bv1), .val (.int (12 : Int32)), .val (.int (11 : Int32)), .val (.ref u10)] [(.int (11 : Int32))])) _
                            refine XS.iloadN X45.here hx rfl (hb hby d1_10) rfl ?_
                            show Steps p.tables e below (T45.setTop (mkF m 11 #[.val (.int p0), .val (.ref bv1), .val (.int (12 : Int32)), .val (.int (11 : Int32)), .val (.ref u10)] [(.int (12 : Int32)), (.int (11 : Int32))])) _
                            refine XS.icmpNo X45.here hx rfl (hb hby d1_11) rfl (tlt (show (11 : Int32) < (12 : Int32) from (by decide))).2.1 ?_
                            show Steps p.tables e below (T45.setTop (mkF m 14 #[.val (.int p0), .val (.ref bv1), .val (.int (12 : Int32)), .val (.int (11 : Int32)), .val (.ref u10)] [])) _
                            refine XS.aloadN X45.here hx rfl (hb hby d1_14) rfl rfl ?_
                            show Steps p.tables e below (T45.setTop (mkF m 15 #[.val (.int p0), .val (.ref bv1), .val (.int (12 : Int32)), .val (.int (11 : Int32)), .val (.ref u10)] [(.ref bv1)])) _
                            refine XS.iloadN X45.here hx rfl (hb hby d1_15) rfl ?_
                            show Steps p.tables e below (T45.setTop (mkF m 16 #[.val (.int p0), .val (.ref bv1), .val (.int (12 : Int32)), .val (.int (11 : Int32)), .val (.ref u10)] [(.int (11 : Int32)), (.ref bv1)])) _
                            refine X45.aaload hx (j := (11 : Int32)) (v := (.ref u11)) (by rw [e45]; exact Ar47.1) (State.isArrayOf_alike hZ.alike Ar47.2.1) rfl Ar47.2.2 hin47 hat47 (g := (mkF m 16 #[.val (.int p0), .val (.ref bv1), .val (.int (12 : Int32)), .val (.int (11 : Int32)), .val (.ref u10)] [(.int (11 : Int32)), (.ref bv1)])) rfl rfl (hb hby d1_16) _ ?_
                            show Steps p.tables e below (T45.setTop (mkF m 17 #[.val (.int p0), .val (.ref bv1), .val (.int (12 : Int32)), .val (.int (11 : Int32)), .val (.ref u10)] [(.ref u11)])) _
                            refine XS.astore X45.here hx rfl (hb hby d1_17) rfl rfl (l' := #[.val (.int p0), .val (.ref bv1), .val (.int (12 : Int32)), .val (.int (11 : Int32)), .val (.ref u11)]) rfl ?_
                            show Steps p.tables e below (T45.setTop (mkF m 19 #[.val (.int p0), .val (.ref bv1), .val (.int (12 : Int32)), .val (.int (11 : Int32)), .val (.ref u11)] [])) _
                            refine XS.aload X45.here hx rfl (hb hby d1_19) rfl rfl ?_
                            show Steps p.tables e below (T45.setTop (mkF m 21 #[.val (.int p0), .val (.ref bv1), .val (.int (12 : Int32)), .val (.int (11 : Int32)), .val (.ref u11)] [(.ref u11)])) _
                            refine st49 _ ?_
                            show Steps p.tables e below (T49.setTop (mkF m 24 #[.val (.int p0), .val (.ref bv1), .val (.int (12 : Int32)), .val (.int (11 : Int32)), .val (.ref u11)] [(.int (12 : Int32))])) _
                            refine XS.iloadN X49.here hx rfl (hb hby d1_24) rfl ?_
                            exact kt)
                        by_cases hc25_11 : (12 : Int32) = p0
                        · obtain ⟨fs, hr, hrun, hended, hW, hsame⟩ := X49.leave (v := some (.ref u11)) (fun h => by rw [Bd.returns] at h; cases h)
                          refine ⟨_, _, pre50 _ ?_, hrun, hended, _, _, rfl, ?_, ⟨_, rfl⟩, hW, hsame.mono (by decide) (by decide)⟩
                          · show Steps p.tables e below (T49.setTop (mkF m 25 #[.val (.int p0), .val (.ref bv1), .val (.int (12 : Int32)), .val (.int (11 : Int32)), .val (.ref u11)] [(.int p0), (.int (12 : Int32))])) _
                            refine XS.icmpNo X49.here hx rfl (hb hby d1_25) rfl (teq (show (12 : Int32) = p0 from hc25_11)).2 ?_
                            show Steps p.tables e below (T49.setTop (mkF m 28 #[.val (.int p0), .val (.ref bv1), .val (.int (12 : Int32)), .val (.int (11 : Int32)), .val (.ref u11)] [])) _
                            refine XS.aload X49.here hx rfl (hb hby d1_28) rfl rfl ?_
                            show Steps p.tables e below (T49.setTop (mkF m 30 #[.val (.int p0), .val (.ref bv1), .val (.int (12 : Int32)), .val (.int (11 : Int32)), .val (.ref u11)] [(.ref u11)])) _
                            jvm_step X49.here [X49.here.top, hx, (hb hby d1_30), X49.method', Bd.returns, Value.isRef, FieldType.isReference]
                            first | (intro acts; rw [hr _ acts rfl rfl rfl]) | rw [hr _ _ rfl rfl rfl]
                            exact Steps.refl _
                          · show Q1 p0 u0 u1 u2 u3 u4 u5 u6 u7 u8 u9 u10 u11 h0 n0 _ T49.heap _
                            rw [e49]
                            exact ⟨(by rw [ofV, if_neg hc25, if_neg hc25_1, if_neg hc25_2, if_neg hc25_3, if_neg hc25_4, if_neg hc25_5, if_neg hc25_6, if_neg hc25_7, if_neg hc25_8, if_neg hc25_9, if_neg hc25_10, if_pos hc25_11]), N1, KK1⟩
                        · obtain ⟨fs, hr, hrun, hended, hW, hsame⟩ := X49.leave (v := some .null) (fun h => by rw [Bd.returns] at h; cases h)
                          refine ⟨_, _, pre50 _ ?_, hrun, hended, _, _, rfl, ?_, ⟨_, rfl⟩, hW, hsame.mono (by decide) (by decide)⟩
                          · show Steps p.tables e below (T49.setTop (mkF m 25 #[.val (.int p0), .val (.ref bv1), .val (.int (12 : Int32)), .val (.int (11 : Int32)), .val (.ref u11)] [(.int p0), (.int (12 : Int32))])) _
                            refine XS.icmpYes X49.here hx rfl (pc0 := 25) (pc' := 31) rfl (hb hby d1_25) rfl (feq (show ¬ ((12 : Int32) = p0) from hc25_11)).2 (by decide) (by decide) ?_
                            show Steps p.tables e below (T49.setTop (mkF m 31 #[.val (.int p0), .val (.ref bv1), .val (.int (12 : Int32)), .val (.int (11 : Int32)), .val (.ref u11)] [])) _
                            refine XS.iinc X49.here hx rfl (hb hby d1_31) rfl (l' := #[.val (.int p0), .val (.ref bv1), .val (.int (12 : Int32)), .val (.int (12 : Int32)), .val (.ref u11)]) rfl ?_
                            show Steps p.tables e below (T49.setTop (mkF m 34 #[.val (.int p0), .val (.ref bv1), .val (.int (12 : Int32)), .val (.int (12 : Int32)), .val (.ref u11)] [])) _
                            refine XS.goto X49.here hx rfl (pc0 := 34) (pc' := 9) rfl (hb hby d1_34) (by decide) (by decide) ?_
                            show Steps p.tables e below (T49.setTop (mkF m 9 #[.val (.int p0), .val (.ref bv1), .val (.int (12 : Int32)), .val (.int (12 : Int32)), .val (.ref u11)] [])) _
                            refine XS.iloadN X49.here hx rfl (hb hby d1_9) rfl ?_
                            show Steps p.tables e below (T49.setTop (mkF m 10 #[.val (.int p0), .val (.ref bv1), .val (.int (12 : Int32)), .val (.int (12 : Int32)), .val (.ref u11)] [(.int (12 : Int32))])) _
                            refine XS.iloadN X49.here hx rfl (hb hby d1_10) rfl ?_
                            show Steps p.tables e below (T49.setTop (mkF m 11 #[.val (.int p0), .val (.ref bv1), .val (.int (12 : Int32)), .val (.int (12 : Int32)), .val (.ref u11)] [(.int (12 : Int32)), (.int (12 : Int32))])) _
                            refine XS.icmpYes X49.here hx rfl (pc0 := 11) (pc' := 37) rfl (hb hby d1_11) rfl (flt (show ¬ ((12 : Int32) < (12 : Int32)) from (by decide))).2.1 (by decide) (by decide) ?_
                            show Steps p.tables e below (T49.setTop (mkF m 37 #[.val (.int p0), .val (.ref bv1), .val (.int (12 : Int32)), .val (.int (12 : Int32)), .val (.ref u11)] [])) _
                            refine XS.aconstNull X49.here hx rfl (hb hby d1_37) ?_
                            show Steps p.tables e below (T49.setTop (mkF m 38 #[.val (.int p0), .val (.ref bv1), .val (.int (12 : Int32)), .val (.int (12 : Int32)), .val (.ref u11)] [.null])) _
                            jvm_step X49.here [X49.here.top, hx, (hb hby d1_38), X49.method', Bd.returns, Value.isRef, FieldType.isReference]
                            first | (intro acts; rw [hr _ acts rfl rfl rfl]) | rw [hr _ _ rfl rfl rfl]
                            exact Steps.refl _
                          · show Q1 p0 u0 u1 u2 u3 u4 u5 u6 u7 u8 u9 u10 u11 h0 n0 _ T49.heap _
                            rw [e49]
                            exact ⟨(by rw [ofV, if_neg hc25, if_neg hc25_1, if_neg hc25_2, if_neg hc25_3, if_neg hc25_4, if_neg hc25_5, if_neg hc25_6, if_neg hc25_7, if_neg hc25_8, if_neg hc25_9, if_neg hc25_10, if_neg hc25_11]), N1, KK1⟩
theorem d3_0 : decode method_3_code 0 = .ok (.iload_n 0, 1) := by decide +kernel
theorem d3_1 : decode method_3_code 1 = .ok (.iconst 1, 1) := by decide +kernel
theorem d3_2 : decode method_3_code 2 = .ok (.if_icmp .ne 7, 3) := by decide +kernel
theorem d3_5 : decode method_3_code 5 = .ok (.getstatic 18, 3) := by decide +kernel
theorem d3_8 : decode method_3_code 8 = .ok (.areturn, 1) := by decide +kernel
theorem d3_9 : decode method_3_code 9 = .ok (.iload_n 0, 1) := by decide +kernel
theorem d3_10 : decode method_3_code 10 = .ok (.iconst 2, 1) := by decide +kernel
theorem d3_11 : decode method_3_code 11 = .ok (.if_icmp .ne 7, 3) := by decide +kernel
theorem d3_14 : decode method_3_code 14 = .ok (.getstatic 22, 3) := by decide +kernel
theorem d3_17 : decode method_3_code 17 = .ok (.areturn, 1) := by decide +kernel
theorem d3_18 : decode method_3_code 18 = .ok (.iload_n 0, 1) := by decide +kernel
theorem d3_19 : decode method_3_code 19 = .ok (.iconst 3, 1) := by decide +kernel
theorem d3_20 : decode method_3_code 20 = .ok (.if_icmp .ne 7, 3) := by decide +kernel
theorem d3_23 : decode method_3_code 23 = .ok (.getstatic 25, 3) := by decide +kernel
theorem d3_26 : decode method_3_code 26 = .ok (.areturn, 1) := by decide +kernel
theorem d3_27 : decode method_3_code 27 = .ok (.iload_n 0, 1) := by decide +kernel
theorem d3_28 : decode method_3_code 28 = .ok (.iconst 4, 1) := by decide +kernel
theorem d3_29 : decode method_3_code 29 = .ok (.if_icmp .ne 7, 3) := by decide +kernel
theorem d3_32 : decode method_3_code 32 = .ok (.getstatic 28, 3) := by decide +kernel
theorem d3_35 : decode method_3_code 35 = .ok (.areturn, 1) := by decide +kernel
theorem d3_36 : decode method_3_code 36 = .ok (.iload_n 0, 1) := by decide +kernel
theorem d3_37 : decode method_3_code 37 = .ok (.iconst 5, 1) := by decide +kernel
theorem d3_38 : decode method_3_code 38 = .ok (.if_icmp .ne 7, 3) := by decide +kernel
theorem d3_41 : decode method_3_code 41 = .ok (.getstatic 31, 3) := by decide +kernel
theorem d3_44 : decode method_3_code 44 = .ok (.areturn, 1) := by decide +kernel
theorem d3_45 : decode method_3_code 45 = .ok (.iload_n 0, 1) := by decide +kernel
theorem d3_46 : decode method_3_code 46 = .ok (.bipush 6, 2) := by decide +kernel
theorem d3_48 : decode method_3_code 48 = .ok (.if_icmp .ne 7, 3) := by decide +kernel
theorem d3_51 : decode method_3_code 51 = .ok (.getstatic 34, 3) := by decide +kernel
theorem d3_54 : decode method_3_code 54 = .ok (.areturn, 1) := by decide +kernel
theorem d3_55 : decode method_3_code 55 = .ok (.iload_n 0, 1) := by decide +kernel
theorem d3_56 : decode method_3_code 56 = .ok (.bipush 7, 2) := by decide +kernel
theorem d3_58 : decode method_3_code 58 = .ok (.if_icmp .ne 7, 3) := by decide +kernel
theorem d3_61 : decode method_3_code 61 = .ok (.getstatic 37, 3) := by decide +kernel
theorem d3_64 : decode method_3_code 64 = .ok (.areturn, 1) := by decide +kernel
theorem d3_65 : decode method_3_code 65 = .ok (.iload_n 0, 1) := by decide +kernel
theorem d3_66 : decode method_3_code 66 = .ok (.bipush 8, 2) := by decide +kernel
theorem d3_68 : decode method_3_code 68 = .ok (.if_icmp .ne 7, 3) := by decide +kernel
theorem d3_71 : decode method_3_code 71 = .ok (.getstatic 40, 3) := by decide +kernel
theorem d3_74 : decode method_3_code 74 = .ok (.areturn, 1) := by decide +kernel
theorem d3_75 : decode method_3_code 75 = .ok (.iload_n 0, 1) := by decide +kernel
theorem d3_76 : decode method_3_code 76 = .ok (.bipush 9, 2) := by decide +kernel
theorem d3_78 : decode method_3_code 78 = .ok (.if_icmp .ne 7, 3) := by decide +kernel
theorem d3_81 : decode method_3_code 81 = .ok (.getstatic 43, 3) := by decide +kernel
theorem d3_84 : decode method_3_code 84 = .ok (.areturn, 1) := by decide +kernel
theorem d3_85 : decode method_3_code 85 = .ok (.iload_n 0, 1) := by decide +kernel
theorem d3_86 : decode method_3_code 86 = .ok (.bipush 10, 2) := by decide +kernel
theorem d3_88 : decode method_3_code 88 = .ok (.if_icmp .ne 7, 3) := by decide +kernel
theorem d3_91 : decode method_3_code 91 = .ok (.getstatic 46, 3) := by decide +kernel
theorem d3_94 : decode method_3_code 94 = .ok (.areturn, 1) := by decide +kernel
theorem d3_95 : decode method_3_code 95 = .ok (.iload_n 0, 1) := by decide +kernel
theorem d3_96 : decode method_3_code 96 = .ok (.bipush 11, 2) := by decide +kernel
theorem d3_98 : decode method_3_code 98 = .ok (.if_icmp .ne 7, 3) := by decide +kernel
theorem d3_101 : decode method_3_code 101 = .ok (.getstatic 49, 3) := by decide +kernel
theorem d3_104 : decode method_3_code 104 = .ok (.areturn, 1) := by decide +kernel
theorem d3_105 : decode method_3_code 105 = .ok (.iload_n 0, 1) := by decide +kernel
theorem d3_106 : decode method_3_code 106 = .ok (.bipush 12, 2) := by decide +kernel
theorem d3_108 : decode method_3_code 108 = .ok (.if_icmp .ne 7, 3) := by decide +kernel
theorem d3_111 : decode method_3_code 111 = .ok (.getstatic 52, 3) := by decide +kernel
theorem d3_114 : decode method_3_code 114 = .ok (.areturn, 1) := by decide +kernel
theorem d3_115 : decode method_3_code 115 = .ok (.aconst_null, 1) := by decide +kernel
theorem d3_116 : decode method_3_code 116 = .ok (.areturn, 1) := by decide +kernel
theorem pn_1 : plainName "com/example/heartwood/heartwood/store/PropertyTypeOfPinLaw" = true := by first | (simp [plainName, overriddenIn]; done) | decide +kernel
theorem ef_3 (m : MethodId) (p0 : Int32) : entryFrame m #[(.int p0)] 1 = mkF m 0 #[.val (.int p0)] [] := by first | (simp [entryFrame, mkF, argsToLocals, Value.category]; done) | rfl
def Q3 (p0 : Int32) (u0 u1 u2 u3 u4 u5 u6 u7 u8 u9 u10 u11 : Addr) (h0 : Heap) (n0 : Nat) (v : Option Value) (h : Heap) (L : List Loc) : Prop := v = some (exV p0 u0 u1 u2 u3 u4 u5 u6 u7 u8 u9 u10 u11) ∧ Fr n0 L ∧ h = h0
set_option maxRecDepth 65536 in
set_option maxHeartbeats 40000000 in
theorem rm3 (l : Launch) (Z : State) (a0 : Array Value) (hw : ∀ d ∈ tables_1, d.before a0 Z = true) (ws : List Jvm.Cond) (p0 : Int32) (u0 u1 u2 u3 u4 u5 u6 u7 u8 u9 u10 u11 : Addr) (h0 : Heap) (n0 : Nat) (Z0 : n0 ≤ h0.size) (S0 : Sta Z h0 "com/example/heartwood/heartwood/store/PropertyType" "STRING" "Lcom/example/heartwood/heartwood/store/PropertyType;" (.ref u0)) (S1 : Sta Z h0 "com/example/heartwood/heartwood/store/PropertyType" "BINARY" "Lcom/example/heartwood/heartwood/store/PropertyType;" (.ref u1)) (S2 : Sta Z h0 "com/example/heartwood/heartwood/store/PropertyType" "LONG" "Lcom/example/heartwood/heartwood/store/PropertyType;" (.ref u2)) (S3 : Sta Z h0 "com/example/heartwood/heartwood/store/PropertyType" "DOUBLE" "Lcom/example/heartwood/heartwood/store/PropertyType;" (.ref u3)) (S4 : Sta Z h0 "com/example/heartwood/heartwood/store/PropertyType" "DATE" "Lcom/example/heartwood/heartwood/store/PropertyType;" (.ref u4)) (S5 : Sta Z h0 "com/example/heartwood/heartwood/store/PropertyType" "BOOLEAN" "Lcom/example/heartwood/heartwood/store/PropertyType;" (.ref u5)) (S6 : Sta Z h0 "com/example/heartwood/heartwood/store/PropertyType" "NAME" "Lcom/example/heartwood/heartwood/store/PropertyType;" (.ref u6)) (S7 : Sta Z h0 "com/example/heartwood/heartwood/store/PropertyType" "PATH" "Lcom/example/heartwood/heartwood/store/PropertyType;" (.ref u7)) (S8 : Sta Z h0 "com/example/heartwood/heartwood/store/PropertyType" "REFERENCE" "Lcom/example/heartwood/heartwood/store/PropertyType;" (.ref u8)) (S9 : Sta Z h0 "com/example/heartwood/heartwood/store/PropertyType" "WEAKREFERENCE" "Lcom/example/heartwood/heartwood/store/PropertyType;" (.ref u9)) (S10 : Sta Z h0 "com/example/heartwood/heartwood/store/PropertyType" "URI" "Lcom/example/heartwood/heartwood/store/PropertyType;" (.ref u10)) (S11 : Sta Z h0 "com/example/heartwood/heartwood/store/PropertyType" "DECIMAL" "Lcom/example/heartwood/heartwood/store/PropertyType;" (.ref u11)) :
    MetFree l (⟨"com/example/heartwood/heartwood/store/PropertyTypeOfPinLaw", "expected", "(I)Lcom/example/heartwood/heartwood/store/PropertyType;"⟩ : MethodName) (head1 (Jvm.Cond.code (⟨"com/example/heartwood/heartwood/store/PropertyTypeOfPinLaw", "expected", "(I)Lcom/example/heartwood/heartwood/store/PropertyType;"⟩ : MethodName) method_3_code 1 (some (.object "com/example/heartwood/heartwood/store/PropertyType")) :: ws) ({ frames := 0, cells := 0, slots := 0, locals := 0 } : Room)) (fun a U => a = #[(.int p0)] ∧ Z.Warmed39 U.vm ∧ U.heap = h0) (fun _ _ _ _ _ => True) (fun _ U o U' => ∃ v L, o = .returned v ∧ Q3 p0 u0 u1 u2 u3 u4 u5 u6 u7 u8 u9 u10 u11 h0 n0 v U'.heap L ∧ FrameEnd U o U' L ({ frames := 0, cells := 0, slots := 0, locals := 0 } : Room).cells ({ frames := 0, cells := 0, slots := 0, locals := 0 } : Room).slots) := by
  refine MetFree.of_bodySF (plainFor_of_name pn_1) hisR ?_
  intro p e s m args below meth c s₁ Bd hml0 hP hK
  obtain ⟨rfl, hZ, hh⟩ := hP
  have hx := Bd.exec
  have hby := Bd.bytes
  have hml : c.maxLocals = 1 := hml0
  have hown : s.vm.findClass "com/example/heartwood/heartwood/store/PropertyTypeOfPinLaw" = some m.cls := findClass_of_methodNamed Bd.named
  have hnm := (name_of_methodNamed Bd.named Bd.method).1
  have X0 : Stand p l e ({ frames := 0, cells := 0, slots := 0, locals := 0 } : Room) s m #[(.int p0)] below meth c s₁ [] 0 0 := Stand.of_body Bd
  have e0 : s₁.heap = h0 := by rw [← hh, Bd.state]; rfl
  have N0 := Fr.nil n0
  have pre0 : ∀ t, Steps p.tables e below (s₁.setTop (mkF m 0 #[.val (.int p0)] [])) t → Steps p.tables e below (s₁.setTop (entryFrame m #[(.int p0)] 1)) t := fun t k => castTop (ef_3 m p0) k
  have pre1 : ∀ t, Steps p.tables e below (s₁.setTop (mkF m 2 #[.val (.int p0)] [(.int (1 : Int32)), (.int p0)])) t → Steps p.tables e below (s₁.setTop (entryFrame m #[(.int p0)] 1)) t := fun t kt => pre0 t (by
      show Steps p.tables e below (s₁.setTop (mkF m 0 #[.val (.int p0)] [])) _
      refine XS.iloadN X0.here hx rfl (hb hby d3_0) rfl ?_
      show Steps p.tables e below (s₁.setTop (mkF m 1 #[.val (.int p0)] [(.int p0)])) _
      refine XS.iconst X0.here hx rfl (hb hby d3_1) ?_
      exact kt)
  by_cases hc2 : p0 = (1 : Int32)
  · obtain ⟨T2, X2, e2, st2⟩ := getS2 X0 hx hZ hown (host := "") (Or.inl (hw _ (List.mem_of_getElem? (i := 43) rfl))) Via.refl e0 S0 (g := (mkF m 5 #[.val (.int p0)] [])) rfl (hb hby d3_5)
    obtain ⟨fs, hr, hrun, hended, hW, hsame⟩ := X2.leave (v := some (.ref u0)) (fun h => by rw [Bd.returns] at h; cases h)
    refine ⟨_, _, pre1 _ ?_, hrun, hended, _, _, rfl, ?_, ⟨_, rfl⟩, hW, hsame.mono (by decide) (by decide)⟩
    · show Steps p.tables e below (s₁.setTop (mkF m 2 #[.val (.int p0)] [(.int (1 : Int32)), (.int p0)])) _
      refine XS.icmpNo X0.here hx rfl (hb hby d3_2) rfl (teq (show p0 = (1 : Int32) from hc2)).2 ?_
      show Steps p.tables e below (s₁.setTop (mkF m 5 #[.val (.int p0)] [])) _
      refine st2 _ ?_
      show Steps p.tables e below (T2.setTop (mkF m 8 #[.val (.int p0)] [(.ref u0)])) _
      jvm_step X2.here [X2.here.top, hx, (hb hby d3_8), X2.method', Bd.returns, Value.isRef, FieldType.isReference]
      first | (intro acts; rw [hr _ acts rfl rfl rfl]) | rw [hr _ _ rfl rfl rfl]
      exact Steps.refl _
    · show Q3 p0 u0 u1 u2 u3 u4 u5 u6 u7 u8 u9 u10 u11 h0 n0 _ T2.heap _
      rw [e2]
      exact ⟨(by rw [exV, if_pos hc2]), N0, rfl⟩
  · have pre3 : ∀ t, Steps p.tables e below (s₁.setTop (mkF m 11 #[.val (.int p0)] [(.int (2 : Int32)), (.int p0)])) t → Steps p.tables e below (s₁.setTop (entryFrame m #[(.int p0)] 1)) t := fun t kt => pre1 t (by
        show Steps p.tables e below (s₁.setTop (mkF m 2 #[.val (.int p0)] [(.int (1 : Int32)), (.int p0)])) _
        refine XS.icmpYes X0.here hx rfl (pc0 := 2) (pc' := 9) rfl (hb hby d3_2) rfl (feq (show ¬ (p0 = (1 : Int32)) from hc2)).2 (by decide) (by decide) ?_
        show Steps p.tables e below (s₁.setTop (mkF m 9 #[.val (.int p0)] [])) _
        refine XS.iloadN X0.here hx rfl (hb hby d3_9) rfl ?_
        show Steps p.tables e below (s₁.setTop (mkF m 10 #[.val (.int p0)] [(.int p0)])) _
        refine XS.iconst X0.here hx rfl (hb hby d3_10) ?_
        exact kt)
    by_cases hc11 : p0 = (2 : Int32)
    · obtain ⟨T4, X4, e4, st4⟩ := getS2 X0 hx hZ hown (host := "") (Or.inl (hw _ (List.mem_of_getElem? (i := 44) rfl))) Via.refl e0 S1 (g := (mkF m 14 #[.val (.int p0)] [])) rfl (hb hby d3_14)
      obtain ⟨fs, hr, hrun, hended, hW, hsame⟩ := X4.leave (v := some (.ref u1)) (fun h => by rw [Bd.returns] at h; cases h)
      refine ⟨_, _, pre3 _ ?_, hrun, hended, _, _, rfl, ?_, ⟨_, rfl⟩, hW, hsame.mono (by decide) (by decide)⟩
      · show Steps p.tables e below (s₁.setTop (mkF m 11 #[.val (.int p0)] [(.int (2 : Int32)), (.int p0)])) _
        refine XS.icmpNo X0.here hx rfl (hb hby d3_11) rfl (teq (show p0 = (2 : Int32) from hc11)).2 ?_
        show Steps p.tables e below (s₁.setTop (mkF m 14 #[.val (.int p0)] [])) _
        refine st4 _ ?_
        show Steps p.tables e below (T4.setTop (mkF m 17 #[.val (.int p0)] [(.ref u1)])) _
        jvm_step X4.here [X4.here.top, hx, (hb hby d3_17), X4.method', Bd.returns, Value.isRef, FieldType.isReference]
        first | (intro acts; rw [hr _ acts rfl rfl rfl]) | rw [hr _ _ rfl rfl rfl]
        exact Steps.refl _
      · show Q3 p0 u0 u1 u2 u3 u4 u5 u6 u7 u8 u9 u10 u11 h0 n0 _ T4.heap _
        rw [e4]
        exact ⟨(by rw [exV, if_neg hc2, if_pos hc11]), N0, rfl⟩
    · have pre5 : ∀ t, Steps p.tables e below (s₁.setTop (mkF m 20 #[.val (.int p0)] [(.int (3 : Int32)), (.int p0)])) t → Steps p.tables e below (s₁.setTop (entryFrame m #[(.int p0)] 1)) t := fun t kt => pre3 t (by
          show Steps p.tables e below (s₁.setTop (mkF m 11 #[.val (.int p0)] [(.int (2 : Int32)), (.int p0)])) _
          refine XS.icmpYes X0.here hx rfl (pc0 := 11) (pc' := 18) rfl (hb hby d3_11) rfl (feq (show ¬ (p0 = (2 : Int32)) from hc11)).2 (by decide) (by decide) ?_
          show Steps p.tables e below (s₁.setTop (mkF m 18 #[.val (.int p0)] [])) _
          refine XS.iloadN X0.here hx rfl (hb hby d3_18) rfl ?_
          show Steps p.tables e below (s₁.setTop (mkF m 19 #[.val (.int p0)] [(.int p0)])) _
          refine XS.iconst X0.here hx rfl (hb hby d3_19) ?_
          exact kt)
      by_cases hc20 : p0 = (3 : Int32)
      · obtain ⟨T6, X6, e6, st6⟩ := getS2 X0 hx hZ hown (host := "") (Or.inl (hw _ (List.mem_of_getElem? (i := 41) rfl))) Via.refl e0 S2 (g := (mkF m 23 #[.val (.int p0)] [])) rfl (hb hby d3_23)
        obtain ⟨fs, hr, hrun, hended, hW, hsame⟩ := X6.leave (v := some (.ref u2)) (fun h => by rw [Bd.returns] at h; cases h)
        refine ⟨_, _, pre5 _ ?_, hrun, hended, _, _, rfl, ?_, ⟨_, rfl⟩, hW, hsame.mono (by decide) (by decide)⟩
        · show Steps p.tables e below (s₁.setTop (mkF m 20 #[.val (.int p0)] [(.int (3 : Int32)), (.int p0)])) _
          refine XS.icmpNo X0.here hx rfl (hb hby d3_20) rfl (teq (show p0 = (3 : Int32) from hc20)).2 ?_
          show Steps p.tables e below (s₁.setTop (mkF m 23 #[.val (.int p0)] [])) _
          refine st6 _ ?_
          show Steps p.tables e below (T6.setTop (mkF m 26 #[.val (.int p0)] [(.ref u2)])) _
          jvm_step X6.here [X6.here.top, hx, (hb hby d3_26), X6.method', Bd.returns, Value.isRef, FieldType.isReference]
          first | (intro acts; rw [hr _ acts rfl rfl rfl]) | rw [hr _ _ rfl rfl rfl]
          exact Steps.refl _
        · show Q3 p0 u0 u1 u2 u3 u4 u5 u6 u7 u8 u9 u10 u11 h0 n0 _ T6.heap _
          rw [e6]
          exact ⟨(by rw [exV, if_neg hc2, if_neg hc11, if_pos hc20]), N0, rfl⟩
      · have pre7 : ∀ t, Steps p.tables e below (s₁.setTop (mkF m 29 #[.val (.int p0)] [(.int (4 : Int32)), (.int p0)])) t → Steps p.tables e below (s₁.setTop (entryFrame m #[(.int p0)] 1)) t := fun t kt => pre5 t (by
            show Steps p.tables e below (s₁.setTop (mkF m 20 #[.val (.int p0)] [(.int (3 : Int32)), (.int p0)])) _
            refine XS.icmpYes X0.here hx rfl (pc0 := 20) (pc' := 27) rfl (hb hby d3_20) rfl (feq (show ¬ (p0 = (3 : Int32)) from hc20)).2 (by decide) (by decide) ?_
            show Steps p.tables e below (s₁.setTop (mkF m 27 #[.val (.int p0)] [])) _
            refine XS.iloadN X0.here hx rfl (hb hby d3_27) rfl ?_
            show Steps p.tables e below (s₁.setTop (mkF m 28 #[.val (.int p0)] [(.int p0)])) _
            refine XS.iconst X0.here hx rfl (hb hby d3_28) ?_
            exact kt)
        by_cases hc29 : p0 = (4 : Int32)
        · obtain ⟨T8, X8, e8, st8⟩ := getS2 X0 hx hZ hown (host := "") (Or.inl (hw _ (List.mem_of_getElem? (i := 48) rfl))) Via.refl e0 S3 (g := (mkF m 32 #[.val (.int p0)] [])) rfl (hb hby d3_32)
          obtain ⟨fs, hr, hrun, hended, hW, hsame⟩ := X8.leave (v := some (.ref u3)) (fun h => by rw [Bd.returns] at h; cases h)
          refine ⟨_, _, pre7 _ ?_, hrun, hended, _, _, rfl, ?_, ⟨_, rfl⟩, hW, hsame.mono (by decide) (by decide)⟩
          · show Steps p.tables e below (s₁.setTop (mkF m 29 #[.val (.int p0)] [(.int (4 : Int32)), (.int p0)])) _
            refine XS.icmpNo X0.here hx rfl (hb hby d3_29) rfl (teq (show p0 = (4 : Int32) from hc29)).2 ?_
            show Steps p.tables e below (s₁.setTop (mkF m 32 #[.val (.int p0)] [])) _
            refine st8 _ ?_
            show Steps p.tables e below (T8.setTop (mkF m 35 #[.val (.int p0)] [(.ref u3)])) _
            jvm_step X8.here [X8.here.top, hx, (hb hby d3_35), X8.method', Bd.returns, Value.isRef, FieldType.isReference]
            first | (intro acts; rw [hr _ acts rfl rfl rfl]) | rw [hr _ _ rfl rfl rfl]
            exact Steps.refl _
          · show Q3 p0 u0 u1 u2 u3 u4 u5 u6 u7 u8 u9 u10 u11 h0 n0 _ T8.heap _
            rw [e8]
            exact ⟨(by rw [exV, if_neg hc2, if_neg hc11, if_neg hc20, if_pos hc29]), N0, rfl⟩
        · have pre9 : ∀ t, Steps p.tables e below (s₁.setTop (mkF m 38 #[.val (.int p0)] [(.int (5 : Int32)), (.int p0)])) t → Steps p.tables e below (s₁.setTop (entryFrame m #[(.int p0)] 1)) t := fun t kt => pre7 t (by
              show Steps p.tables e below (s₁.setTop (mkF m 29 #[.val (.int p0)] [(.int (4 : Int32)), (.int p0)])) _
              refine XS.icmpYes X0.here hx rfl (pc0 := 29) (pc' := 36) rfl (hb hby d3_29) rfl (feq (show ¬ (p0 = (4 : Int32)) from hc29)).2 (by decide) (by decide) ?_
              show Steps p.tables e below (s₁.setTop (mkF m 36 #[.val (.int p0)] [])) _
              refine XS.iloadN X0.here hx rfl (hb hby d3_36) rfl ?_
              show Steps p.tables e below (s₁.setTop (mkF m 37 #[.val (.int p0)] [(.int p0)])) _
              refine XS.iconst X0.here hx rfl (hb hby d3_37) ?_
              exact kt)
          by_cases hc38 : p0 = (5 : Int32)
          · obtain ⟨T10, X10, e10, st10⟩ := getS2 X0 hx hZ hown (host := "") (Or.inl (hw _ (List.mem_of_getElem? (i := 42) rfl))) Via.refl e0 S4 (g := (mkF m 41 #[.val (.int p0)] [])) rfl (hb hby d3_41)
            obtain ⟨fs, hr, hrun, hended, hW, hsame⟩ := X10.leave (v := some (.ref u4)) (fun h => by rw [Bd.returns] at h; cases h)
            refine ⟨_, _, pre9 _ ?_, hrun, hended, _, _, rfl, ?_, ⟨_, rfl⟩, hW, hsame.mono (by decide) (by decide)⟩
            · show Steps p.tables e below (s₁.setTop (mkF m 38 #[.val (.int p0)] [(.int (5 : Int32)), (.int p0)])) _
              refine XS.icmpNo X0.here hx rfl (hb hby d3_38) rfl (teq (show p0 = (5 : Int32) from hc38)).2 ?_
              show Steps p.tables e below (s₁.setTop (mkF m 41 #[.val (.int p0)] [])) _
              refine st10 _ ?_
              show Steps p.tables e below (T10.setTop (mkF m 44 #[.val (.int p0)] [(.ref u4)])) _
              jvm_step X10.here [X10.here.top, hx, (hb hby d3_44), X10.method', Bd.returns, Value.isRef, FieldType.isReference]
              first | (intro acts; rw [hr _ acts rfl rfl rfl]) | rw [hr _ _ rfl rfl rfl]
              exact Steps.refl _
            · show Q3 p0 u0 u1 u2 u3 u4 u5 u6 u7 u8 u9 u10 u11 h0 n0 _ T10.heap _
              rw [e10]
              exact ⟨(by rw [exV, if_neg hc2, if_neg hc11, if_neg hc20, if_neg hc29, if_pos hc38]), N0, rfl⟩
          · have pre11 : ∀ t, Steps p.tables e below (s₁.setTop (mkF m 48 #[.val (.int p0)] [(.int (6 : Int32)), (.int p0)])) t → Steps p.tables e below (s₁.setTop (entryFrame m #[(.int p0)] 1)) t := fun t kt => pre9 t (by
                show Steps p.tables e below (s₁.setTop (mkF m 38 #[.val (.int p0)] [(.int (5 : Int32)), (.int p0)])) _
                refine XS.icmpYes X0.here hx rfl (pc0 := 38) (pc' := 45) rfl (hb hby d3_38) rfl (feq (show ¬ (p0 = (5 : Int32)) from hc38)).2 (by decide) (by decide) ?_
                show Steps p.tables e below (s₁.setTop (mkF m 45 #[.val (.int p0)] [])) _
                refine XS.iloadN X0.here hx rfl (hb hby d3_45) rfl ?_
                show Steps p.tables e below (s₁.setTop (mkF m 46 #[.val (.int p0)] [(.int p0)])) _
                refine XS.bipush X0.here hx rfl (hb hby d3_46) ?_
                exact kt)
            by_cases hc48 : p0 = (6 : Int32)
            · obtain ⟨T12, X12, e12, st12⟩ := getS2 X0 hx hZ hown (host := "") (Or.inl (hw _ (List.mem_of_getElem? (i := 37) rfl))) Via.refl e0 S5 (g := (mkF m 51 #[.val (.int p0)] [])) rfl (hb hby d3_51)
              obtain ⟨fs, hr, hrun, hended, hW, hsame⟩ := X12.leave (v := some (.ref u5)) (fun h => by rw [Bd.returns] at h; cases h)
              refine ⟨_, _, pre11 _ ?_, hrun, hended, _, _, rfl, ?_, ⟨_, rfl⟩, hW, hsame.mono (by decide) (by decide)⟩
              · show Steps p.tables e below (s₁.setTop (mkF m 48 #[.val (.int p0)] [(.int (6 : Int32)), (.int p0)])) _
                refine XS.icmpNo X0.here hx rfl (hb hby d3_48) rfl (teq (show p0 = (6 : Int32) from hc48)).2 ?_
                show Steps p.tables e below (s₁.setTop (mkF m 51 #[.val (.int p0)] [])) _
                refine st12 _ ?_
                show Steps p.tables e below (T12.setTop (mkF m 54 #[.val (.int p0)] [(.ref u5)])) _
                jvm_step X12.here [X12.here.top, hx, (hb hby d3_54), X12.method', Bd.returns, Value.isRef, FieldType.isReference]
                first | (intro acts; rw [hr _ acts rfl rfl rfl]) | rw [hr _ _ rfl rfl rfl]
                exact Steps.refl _
              · show Q3 p0 u0 u1 u2 u3 u4 u5 u6 u7 u8 u9 u10 u11 h0 n0 _ T12.heap _
                rw [e12]
                exact ⟨(by rw [exV, if_neg hc2, if_neg hc11, if_neg hc20, if_neg hc29, if_neg hc38, if_pos hc48]), N0, rfl⟩
            · have pre13 : ∀ t, Steps p.tables e below (s₁.setTop (mkF m 58 #[.val (.int p0)] [(.int (7 : Int32)), (.int p0)])) t → Steps p.tables e below (s₁.setTop (entryFrame m #[(.int p0)] 1)) t := fun t kt => pre11 t (by
                  show Steps p.tables e below (s₁.setTop (mkF m 48 #[.val (.int p0)] [(.int (6 : Int32)), (.int p0)])) _
                  refine XS.icmpYes X0.here hx rfl (pc0 := 48) (pc' := 55) rfl (hb hby d3_48) rfl (feq (show ¬ (p0 = (6 : Int32)) from hc48)).2 (by decide) (by decide) ?_
                  show Steps p.tables e below (s₁.setTop (mkF m 55 #[.val (.int p0)] [])) _
                  refine XS.iloadN X0.here hx rfl (hb hby d3_55) rfl ?_
                  show Steps p.tables e below (s₁.setTop (mkF m 56 #[.val (.int p0)] [(.int p0)])) _
                  refine XS.bipush X0.here hx rfl (hb hby d3_56) ?_
                  exact kt)
              by_cases hc58 : p0 = (7 : Int32)
              · obtain ⟨T14, X14, e14, st14⟩ := getS2 X0 hx hZ hown (host := "") (Or.inl (hw _ (List.mem_of_getElem? (i := 40) rfl))) Via.refl e0 S6 (g := (mkF m 61 #[.val (.int p0)] [])) rfl (hb hby d3_61)
                obtain ⟨fs, hr, hrun, hended, hW, hsame⟩ := X14.leave (v := some (.ref u6)) (fun h => by rw [Bd.returns] at h; cases h)
                refine ⟨_, _, pre13 _ ?_, hrun, hended, _, _, rfl, ?_, ⟨_, rfl⟩, hW, hsame.mono (by decide) (by decide)⟩
                · show Steps p.tables e below (s₁.setTop (mkF m 58 #[.val (.int p0)] [(.int (7 : Int32)), (.int p0)])) _
                  refine XS.icmpNo X0.here hx rfl (hb hby d3_58) rfl (teq (show p0 = (7 : Int32) from hc58)).2 ?_
                  show Steps p.tables e below (s₁.setTop (mkF m 61 #[.val (.int p0)] [])) _
                  refine st14 _ ?_
                  show Steps p.tables e below (T14.setTop (mkF m 64 #[.val (.int p0)] [(.ref u6)])) _
                  jvm_step X14.here [X14.here.top, hx, (hb hby d3_64), X14.method', Bd.returns, Value.isRef, FieldType.isReference]
                  first | (intro acts; rw [hr _ acts rfl rfl rfl]) | rw [hr _ _ rfl rfl rfl]
                  exact Steps.refl _
                · show Q3 p0 u0 u1 u2 u3 u4 u5 u6 u7 u8 u9 u10 u11 h0 n0 _ T14.heap _
                  rw [e14]
                  exact ⟨(by rw [exV, if_neg hc2, if_neg hc11, if_neg hc20, if_neg hc29, if_neg hc38, if_neg hc48, if_pos hc58]), N0, rfl⟩
              · have pre15 : ∀ t, Steps p.tables e below (s₁.setTop (mkF m 68 #[.val (.int p0)] [(.int (8 : Int32)), (.int p0)])) t → Steps p.tables e below (s₁.setTop (entryFrame m #[(.int p0)] 1)) t := fun t kt => pre13 t (by
                    show Steps p.tables e below (s₁.setTop (mkF m 58 #[.val (.int p0)] [(.int (7 : Int32)), (.int p0)])) _
                    refine XS.icmpYes X0.here hx rfl (pc0 := 58) (pc' := 65) rfl (hb hby d3_58) rfl (feq (show ¬ (p0 = (7 : Int32)) from hc58)).2 (by decide) (by decide) ?_
                    show Steps p.tables e below (s₁.setTop (mkF m 65 #[.val (.int p0)] [])) _
                    refine XS.iloadN X0.here hx rfl (hb hby d3_65) rfl ?_
                    show Steps p.tables e below (s₁.setTop (mkF m 66 #[.val (.int p0)] [(.int p0)])) _
                    refine XS.bipush X0.here hx rfl (hb hby d3_66) ?_
                    exact kt)
                by_cases hc68 : p0 = (8 : Int32)
                · obtain ⟨T16, X16, e16, st16⟩ := getS2 X0 hx hZ hown (host := "") (Or.inl (hw _ (List.mem_of_getElem? (i := 38) rfl))) Via.refl e0 S7 (g := (mkF m 71 #[.val (.int p0)] [])) rfl (hb hby d3_71)
                  obtain ⟨fs, hr, hrun, hended, hW, hsame⟩ := X16.leave (v := some (.ref u7)) (fun h => by rw [Bd.returns] at h; cases h)
                  refine ⟨_, _, pre15 _ ?_, hrun, hended, _, _, rfl, ?_, ⟨_, rfl⟩, hW, hsame.mono (by decide) (by decide)⟩
                  · show Steps p.tables e below (s₁.setTop (mkF m 68 #[.val (.int p0)] [(.int (8 : Int32)), (.int p0)])) _
                    refine XS.icmpNo X0.here hx rfl (hb hby d3_68) rfl (teq (show p0 = (8 : Int32) from hc68)).2 ?_
                    show Steps p.tables e below (s₁.setTop (mkF m 71 #[.val (.int p0)] [])) _
                    refine st16 _ ?_
                    show Steps p.tables e below (T16.setTop (mkF m 74 #[.val (.int p0)] [(.ref u7)])) _
                    jvm_step X16.here [X16.here.top, hx, (hb hby d3_74), X16.method', Bd.returns, Value.isRef, FieldType.isReference]
                    first | (intro acts; rw [hr _ acts rfl rfl rfl]) | rw [hr _ _ rfl rfl rfl]
                    exact Steps.refl _
                  · show Q3 p0 u0 u1 u2 u3 u4 u5 u6 u7 u8 u9 u10 u11 h0 n0 _ T16.heap _
                    rw [e16]
                    exact ⟨(by rw [exV, if_neg hc2, if_neg hc11, if_neg hc20, if_neg hc29, if_neg hc38, if_neg hc48, if_neg hc58, if_pos hc68]), N0, rfl⟩
                · have pre17 : ∀ t, Steps p.tables e below (s₁.setTop (mkF m 78 #[.val (.int p0)] [(.int (9 : Int32)), (.int p0)])) t → Steps p.tables e below (s₁.setTop (entryFrame m #[(.int p0)] 1)) t := fun t kt => pre15 t (by
                      show Steps p.tables e below (s₁.setTop (mkF m 68 #[.val (.int p0)] [(.int (8 : Int32)), (.int p0)])) _
                      refine XS.icmpYes X0.here hx rfl (pc0 := 68) (pc' := 75) rfl (hb hby d3_68) rfl (feq (show ¬ (p0 = (8 : Int32)) from hc68)).2 (by decide) (by decide) ?_
                      show Steps p.tables e below (s₁.setTop (mkF m 75 #[.val (.int p0)] [])) _
                      refine XS.iloadN X0.here hx rfl (hb hby d3_75) rfl ?_
                      show Steps p.tables e below (s₁.setTop (mkF m 76 #[.val (.int p0)] [(.int p0)])) _
                      refine XS.bipush X0.here hx rfl (hb hby d3_76) ?_
                      exact kt)
                  by_cases hc78 : p0 = (9 : Int32)
                  · obtain ⟨T18, X18, e18, st18⟩ := getS2 X0 hx hZ hown (host := "") (Or.inl (hw _ (List.mem_of_getElem? (i := 47) rfl))) Via.refl e0 S8 (g := (mkF m 81 #[.val (.int p0)] [])) rfl (hb hby d3_81)
                    obtain ⟨fs, hr, hrun, hended, hW, hsame⟩ := X18.leave (v := some (.ref u8)) (fun h => by rw [Bd.returns] at h; cases h)
                    refine ⟨_, _, pre17 _ ?_, hrun, hended, _, _, rfl, ?_, ⟨_, rfl⟩, hW, hsame.mono (by decide) (by decide)⟩
                    · show Steps p.tables e below (s₁.setTop (mkF m 78 #[.val (.int p0)] [(.int (9 : Int32)), (.int p0)])) _
                      refine XS.icmpNo X0.here hx rfl (hb hby d3_78) rfl (teq (show p0 = (9 : Int32) from hc78)).2 ?_
                      show Steps p.tables e below (s₁.setTop (mkF m 81 #[.val (.int p0)] [])) _
                      refine st18 _ ?_
                      show Steps p.tables e below (T18.setTop (mkF m 84 #[.val (.int p0)] [(.ref u8)])) _
                      jvm_step X18.here [X18.here.top, hx, (hb hby d3_84), X18.method', Bd.returns, Value.isRef, FieldType.isReference]
                      first | (intro acts; rw [hr _ acts rfl rfl rfl]) | rw [hr _ _ rfl rfl rfl]
                      exact Steps.refl _
                    · show Q3 p0 u0 u1 u2 u3 u4 u5 u6 u7 u8 u9 u10 u11 h0 n0 _ T18.heap _
                      rw [e18]
                      exact ⟨(by rw [exV, if_neg hc2, if_neg hc11, if_neg hc20, if_neg hc29, if_neg hc38, if_neg hc48, if_neg hc58, if_neg hc68, if_pos hc78]), N0, rfl⟩
                  · have pre19 : ∀ t, Steps p.tables e below (s₁.setTop (mkF m 88 #[.val (.int p0)] [(.int (10 : Int32)), (.int p0)])) t → Steps p.tables e below (s₁.setTop (entryFrame m #[(.int p0)] 1)) t := fun t kt => pre17 t (by
                        show Steps p.tables e below (s₁.setTop (mkF m 78 #[.val (.int p0)] [(.int (9 : Int32)), (.int p0)])) _
                        refine XS.icmpYes X0.here hx rfl (pc0 := 78) (pc' := 85) rfl (hb hby d3_78) rfl (feq (show ¬ (p0 = (9 : Int32)) from hc78)).2 (by decide) (by decide) ?_
                        show Steps p.tables e below (s₁.setTop (mkF m 85 #[.val (.int p0)] [])) _
                        refine XS.iloadN X0.here hx rfl (hb hby d3_85) rfl ?_
                        show Steps p.tables e below (s₁.setTop (mkF m 86 #[.val (.int p0)] [(.int p0)])) _
                        refine XS.bipush X0.here hx rfl (hb hby d3_86) ?_
                        exact kt)
                    by_cases hc88 : p0 = (10 : Int32)
                    · obtain ⟨T20, X20, e20, st20⟩ := getS2 X0 hx hZ hown (host := "") (Or.inl (hw _ (List.mem_of_getElem? (i := 45) rfl))) Via.refl e0 S9 (g := (mkF m 91 #[.val (.int p0)] [])) rfl (hb hby d3_91)
                      obtain ⟨fs, hr, hrun, hended, hW, hsame⟩ := X20.leave (v := some (.ref u9)) (fun h => by rw [Bd.returns] at h; cases h)
                      refine ⟨_, _, pre19 _ ?_, hrun, hended, _, _, rfl, ?_, ⟨_, rfl⟩, hW, hsame.mono (by decide) (by decide)⟩
                      · show Steps p.tables e below (s₁.setTop (mkF m 88 #[.val (.int p0)] [(.int (10 : Int32)), (.int p0)])) _
                        refine XS.icmpNo X0.here hx rfl (hb hby d3_88) rfl (teq (show p0 = (10 : Int32) from hc88)).2 ?_
                        show Steps p.tables e below (s₁.setTop (mkF m 91 #[.val (.int p0)] [])) _
                        refine st20 _ ?_
                        show Steps p.tables e below (T20.setTop (mkF m 94 #[.val (.int p0)] [(.ref u9)])) _
                        jvm_step X20.here [X20.here.top, hx, (hb hby d3_94), X20.method', Bd.returns, Value.isRef, FieldType.isReference]
                        first | (intro acts; rw [hr _ acts rfl rfl rfl]) | rw [hr _ _ rfl rfl rfl]
                        exact Steps.refl _
                      · show Q3 p0 u0 u1 u2 u3 u4 u5 u6 u7 u8 u9 u10 u11 h0 n0 _ T20.heap _
                        rw [e20]
                        exact ⟨(by rw [exV, if_neg hc2, if_neg hc11, if_neg hc20, if_neg hc29, if_neg hc38, if_neg hc48, if_neg hc58, if_neg hc68, if_neg hc78, if_pos hc88]), N0, rfl⟩
                    · have pre21 : ∀ t, Steps p.tables e below (s₁.setTop (mkF m 98 #[.val (.int p0)] [(.int (11 : Int32)), (.int p0)])) t → Steps p.tables e below (s₁.setTop (entryFrame m #[(.int p0)] 1)) t := fun t kt => pre19 t (by
                          show Steps p.tables e below (s₁.setTop (mkF m 88 #[.val (.int p0)] [(.int (10 : Int32)), (.int p0)])) _
                          refine XS.icmpYes X0.here hx rfl (pc0 := 88) (pc' := 95) rfl (hb hby d3_88) rfl (feq (show ¬ (p0 = (10 : Int32)) from hc88)).2 (by decide) (by decide) ?_
                          show Steps p.tables e below (s₁.setTop (mkF m 95 #[.val (.int p0)] [])) _
                          refine XS.iloadN X0.here hx rfl (hb hby d3_95) rfl ?_
                          show Steps p.tables e below (s₁.setTop (mkF m 96 #[.val (.int p0)] [(.int p0)])) _
                          refine XS.bipush X0.here hx rfl (hb hby d3_96) ?_
                          exact kt)
                      by_cases hc98 : p0 = (11 : Int32)
                      · obtain ⟨T22, X22, e22, st22⟩ := getS2 X0 hx hZ hown (host := "") (Or.inl (hw _ (List.mem_of_getElem? (i := 46) rfl))) Via.refl e0 S10 (g := (mkF m 101 #[.val (.int p0)] [])) rfl (hb hby d3_101)
                        obtain ⟨fs, hr, hrun, hended, hW, hsame⟩ := X22.leave (v := some (.ref u10)) (fun h => by rw [Bd.returns] at h; cases h)
                        refine ⟨_, _, pre21 _ ?_, hrun, hended, _, _, rfl, ?_, ⟨_, rfl⟩, hW, hsame.mono (by decide) (by decide)⟩
                        · show Steps p.tables e below (s₁.setTop (mkF m 98 #[.val (.int p0)] [(.int (11 : Int32)), (.int p0)])) _
                          refine XS.icmpNo X0.here hx rfl (hb hby d3_98) rfl (teq (show p0 = (11 : Int32) from hc98)).2 ?_
                          show Steps p.tables e below (s₁.setTop (mkF m 101 #[.val (.int p0)] [])) _
                          refine st22 _ ?_
                          show Steps p.tables e below (T22.setTop (mkF m 104 #[.val (.int p0)] [(.ref u10)])) _
                          jvm_step X22.here [X22.here.top, hx, (hb hby d3_104), X22.method', Bd.returns, Value.isRef, FieldType.isReference]
                          first | (intro acts; rw [hr _ acts rfl rfl rfl]) | rw [hr _ _ rfl rfl rfl]
                          exact Steps.refl _
                        · show Q3 p0 u0 u1 u2 u3 u4 u5 u6 u7 u8 u9 u10 u11 h0 n0 _ T22.heap _
                          rw [e22]
                          exact ⟨(by rw [exV, if_neg hc2, if_neg hc11, if_neg hc20, if_neg hc29, if_neg hc38, if_neg hc48, if_neg hc58, if_neg hc68, if_neg hc78, if_neg hc88, if_pos hc98]), N0, rfl⟩
                      · have pre23 : ∀ t, Steps p.tables e below (s₁.setTop (mkF m 108 #[.val (.int p0)] [(.int (12 : Int32)), (.int p0)])) t → Steps p.tables e below (s₁.setTop (entryFrame m #[(.int p0)] 1)) t := fun t kt => pre21 t (by
                            show Steps p.tables e below (s₁.setTop (mkF m 98 #[.val (.int p0)] [(.int (11 : Int32)), (.int p0)])) _
                            refine XS.icmpYes X0.here hx rfl (pc0 := 98) (pc' := 105) rfl (hb hby d3_98) rfl (feq (show ¬ (p0 = (11 : Int32)) from hc98)).2 (by decide) (by decide) ?_
                            show Steps p.tables e below (s₁.setTop (mkF m 105 #[.val (.int p0)] [])) _
                            refine XS.iloadN X0.here hx rfl (hb hby d3_105) rfl ?_
                            show Steps p.tables e below (s₁.setTop (mkF m 106 #[.val (.int p0)] [(.int p0)])) _
                            refine XS.bipush X0.here hx rfl (hb hby d3_106) ?_
                            exact kt)
                        by_cases hc108 : p0 = (12 : Int32)
                        · obtain ⟨T24, X24, e24, st24⟩ := getS2 X0 hx hZ hown (host := "") (Or.inl (hw _ (List.mem_of_getElem? (i := 39) rfl))) Via.refl e0 S11 (g := (mkF m 111 #[.val (.int p0)] [])) rfl (hb hby d3_111)
                          obtain ⟨fs, hr, hrun, hended, hW, hsame⟩ := X24.leave (v := some (.ref u11)) (fun h => by rw [Bd.returns] at h; cases h)
                          refine ⟨_, _, pre23 _ ?_, hrun, hended, _, _, rfl, ?_, ⟨_, rfl⟩, hW, hsame.mono (by decide) (by decide)⟩
                          · show Steps p.tables e below (s₁.setTop (mkF m 108 #[.val (.int p0)] [(.int (12 : Int32)), (.int p0)])) _
                            refine XS.icmpNo X0.here hx rfl (hb hby d3_108) rfl (teq (show p0 = (12 : Int32) from hc108)).2 ?_
                            show Steps p.tables e below (s₁.setTop (mkF m 111 #[.val (.int p0)] [])) _
                            refine st24 _ ?_
                            show Steps p.tables e below (T24.setTop (mkF m 114 #[.val (.int p0)] [(.ref u11)])) _
                            jvm_step X24.here [X24.here.top, hx, (hb hby d3_114), X24.method', Bd.returns, Value.isRef, FieldType.isReference]
                            first | (intro acts; rw [hr _ acts rfl rfl rfl]) | rw [hr _ _ rfl rfl rfl]
                            exact Steps.refl _
                          · show Q3 p0 u0 u1 u2 u3 u4 u5 u6 u7 u8 u9 u10 u11 h0 n0 _ T24.heap _
                            rw [e24]
                            exact ⟨(by rw [exV, if_neg hc2, if_neg hc11, if_neg hc20, if_neg hc29, if_neg hc38, if_neg hc48, if_neg hc58, if_neg hc68, if_neg hc78, if_neg hc88, if_neg hc98, if_pos hc108]), N0, rfl⟩
                        · obtain ⟨fs, hr, hrun, hended, hW, hsame⟩ := X0.leave (v := some .null) (fun h => by rw [Bd.returns] at h; cases h)
                          refine ⟨_, _, pre23 _ ?_, hrun, hended, _, _, rfl, ?_, ⟨_, rfl⟩, hW, hsame.mono (by decide) (by decide)⟩
                          · show Steps p.tables e below (s₁.setTop (mkF m 108 #[.val (.int p0)] [(.int (12 : Int32)), (.int p0)])) _
                            refine XS.icmpYes X0.here hx rfl (pc0 := 108) (pc' := 115) rfl (hb hby d3_108) rfl (feq (show ¬ (p0 = (12 : Int32)) from hc108)).2 (by decide) (by decide) ?_
                            show Steps p.tables e below (s₁.setTop (mkF m 115 #[.val (.int p0)] [])) _
                            refine XS.aconstNull X0.here hx rfl (hb hby d3_115) ?_
                            show Steps p.tables e below (s₁.setTop (mkF m 116 #[.val (.int p0)] [.null])) _
                            jvm_step X0.here [X0.here.top, hx, (hb hby d3_116), X0.method', Bd.returns, Value.isRef, FieldType.isReference]
                            first | (intro acts; rw [hr _ acts rfl rfl rfl]) | rw [hr _ _ rfl rfl rfl]
                            exact Steps.refl _
                          · show Q3 p0 u0 u1 u2 u3 u4 u5 u6 u7 u8 u9 u10 u11 h0 n0 _ s₁.heap _
                            rw [e0]
                            exact ⟨(by rw [exV, if_neg hc2, if_neg hc11, if_neg hc20, if_neg hc29, if_neg hc38, if_neg hc48, if_neg hc58, if_neg hc68, if_neg hc78, if_neg hc88, if_neg hc98, if_neg hc108]), N0, rfl⟩
theorem pd_1 : parseMethodDescriptor "(I)Lcom/example/heartwood/heartwood/store/PropertyType;" = some ⟨[.int], some (.object "com/example/heartwood/heartwood/store/PropertyType")⟩ := by decide +kernel
theorem ef_0 (m : MethodId) (p0 : Int32) (p1 : Int32) : entryFrame m #[(.int p0), (.int p1)] maxLocals = mkF m 0 #[.val (.int p0), .val (.int p1), .unset] [] := by first | (simp [entryFrame, mkF, argsToLocals, Value.category, maxLocals]; done) | rfl
def Q0 (h0 : Heap) (n0 : Nat) (v : Option Value) (h : Heap) (L : List Loc) : Prop := v = some (.int 1) ∧ Fr n0 L
set_option maxRecDepth 65536 in
set_option maxHeartbeats 40000000 in
theorem rm0 (l : Launch) (Z : State) (a0 : Array Value) (hw : ∀ d ∈ tables_1, d.before a0 Z = true) (ws : List Jvm.Cond) (p0 p1 : Int32) (bV : Addr) (kV : ClassId) (u0 u1 u2 u3 u4 u5 u6 u7 u8 u9 u10 u11 : Addr) (h0 : Heap) (n0 : Nat) (Z0 : n0 ≤ h0.size) (S0 : Sta Z h0 "com/example/heartwood/heartwood/store/PropertyType" "STRING" "Lcom/example/heartwood/heartwood/store/PropertyType;" (.ref u0)) (E0 : Exa Z h0 u0 "com/example/heartwood/heartwood/store/PropertyType") (F0 : Fld Z h0 u0 "com/example/heartwood/heartwood/store/PropertyType" "code" "I" (.int (1 : Int32))) (S1 : Sta Z h0 "com/example/heartwood/heartwood/store/PropertyType" "BINARY" "Lcom/example/heartwood/heartwood/store/PropertyType;" (.ref u1)) (E1 : Exa Z h0 u1 "com/example/heartwood/heartwood/store/PropertyType") (F1 : Fld Z h0 u1 "com/example/heartwood/heartwood/store/PropertyType" "code" "I" (.int (2 : Int32))) (S2 : Sta Z h0 "com/example/heartwood/heartwood/store/PropertyType" "LONG" "Lcom/example/heartwood/heartwood/store/PropertyType;" (.ref u2)) (E2 : Exa Z h0 u2 "com/example/heartwood/heartwood/store/PropertyType") (F2 : Fld Z h0 u2 "com/example/heartwood/heartwood/store/PropertyType" "code" "I" (.int (3 : Int32))) (S3 : Sta Z h0 "com/example/heartwood/heartwood/store/PropertyType" "DOUBLE" "Lcom/example/heartwood/heartwood/store/PropertyType;" (.ref u3)) (E3 : Exa Z h0 u3 "com/example/heartwood/heartwood/store/PropertyType") (F3 : Fld Z h0 u3 "com/example/heartwood/heartwood/store/PropertyType" "code" "I" (.int (4 : Int32))) (S4 : Sta Z h0 "com/example/heartwood/heartwood/store/PropertyType" "DATE" "Lcom/example/heartwood/heartwood/store/PropertyType;" (.ref u4)) (E4 : Exa Z h0 u4 "com/example/heartwood/heartwood/store/PropertyType") (F4 : Fld Z h0 u4 "com/example/heartwood/heartwood/store/PropertyType" "code" "I" (.int (5 : Int32))) (S5 : Sta Z h0 "com/example/heartwood/heartwood/store/PropertyType" "BOOLEAN" "Lcom/example/heartwood/heartwood/store/PropertyType;" (.ref u5)) (E5 : Exa Z h0 u5 "com/example/heartwood/heartwood/store/PropertyType") (F5 : Fld Z h0 u5 "com/example/heartwood/heartwood/store/PropertyType" "code" "I" (.int (6 : Int32))) (S6 : Sta Z h0 "com/example/heartwood/heartwood/store/PropertyType" "NAME" "Lcom/example/heartwood/heartwood/store/PropertyType;" (.ref u6)) (E6 : Exa Z h0 u6 "com/example/heartwood/heartwood/store/PropertyType") (F6 : Fld Z h0 u6 "com/example/heartwood/heartwood/store/PropertyType" "code" "I" (.int (7 : Int32))) (S7 : Sta Z h0 "com/example/heartwood/heartwood/store/PropertyType" "PATH" "Lcom/example/heartwood/heartwood/store/PropertyType;" (.ref u7)) (E7 : Exa Z h0 u7 "com/example/heartwood/heartwood/store/PropertyType") (F7 : Fld Z h0 u7 "com/example/heartwood/heartwood/store/PropertyType" "code" "I" (.int (8 : Int32))) (S8 : Sta Z h0 "com/example/heartwood/heartwood/store/PropertyType" "REFERENCE" "Lcom/example/heartwood/heartwood/store/PropertyType;" (.ref u8)) (E8 : Exa Z h0 u8 "com/example/heartwood/heartwood/store/PropertyType") (F8 : Fld Z h0 u8 "com/example/heartwood/heartwood/store/PropertyType" "code" "I" (.int (9 : Int32))) (S9 : Sta Z h0 "com/example/heartwood/heartwood/store/PropertyType" "WEAKREFERENCE" "Lcom/example/heartwood/heartwood/store/PropertyType;" (.ref u9)) (E9 : Exa Z h0 u9 "com/example/heartwood/heartwood/store/PropertyType") (F9 : Fld Z h0 u9 "com/example/heartwood/heartwood/store/PropertyType" "code" "I" (.int (10 : Int32))) (S10 : Sta Z h0 "com/example/heartwood/heartwood/store/PropertyType" "URI" "Lcom/example/heartwood/heartwood/store/PropertyType;" (.ref u10)) (E10 : Exa Z h0 u10 "com/example/heartwood/heartwood/store/PropertyType") (F10 : Fld Z h0 u10 "com/example/heartwood/heartwood/store/PropertyType" "code" "I" (.int (11 : Int32))) (S11 : Sta Z h0 "com/example/heartwood/heartwood/store/PropertyType" "DECIMAL" "Lcom/example/heartwood/heartwood/store/PropertyType;" (.ref u11)) (E11 : Exa Z h0 u11 "com/example/heartwood/heartwood/store/PropertyType") (F11 : Fld Z h0 u11 "com/example/heartwood/heartwood/store/PropertyType" "code" "I" (.int (12 : Int32))) (SV : Sta Z h0 "com/example/heartwood/heartwood/store/PropertyType" "$VALUES" "[Lcom/example/heartwood/heartwood/store/PropertyType;" (.ref bV)) (EV : Exa Z h0 bV "[Lcom/example/heartwood/heartwood/store/PropertyType;") (AV : Arv Z h0 bV kV (.object "com/example/heartwood/heartwood/store/PropertyType") (12 : Int32) [(.ref u0), (.ref u1), (.ref u2), (.ref u3), (.ref u4), (.ref u5), (.ref u6), (.ref u7), (.ref u8), (.ref u9), (.ref u10), (.ref u11)] .null) :
    MetFree l x (head1 (Jvm.Cond.code x code maxLocals ret :: ws) room_1) (fun a U => a = #[(.int p0), (.int p1)] ∧ Z.Warmed39 U.vm ∧ U.heap = h0) (fun _ _ _ _ _ => True) (fun _ U o U' => ∃ v L, o = .returned v ∧ Q0 h0 n0 v U'.heap L ∧ FrameEnd U o U' L 1 12) := by
  refine MetFree.of_bodySF (plainFor_of_name pn_1) hisR ?_
  intro p e s m args below meth c s₁ Bd hml0 hP hK
  obtain ⟨rfl, hZ, hh⟩ := hP
  have hx := Bd.exec
  have hby := Bd.bytes
  have hml : c.maxLocals = 3 := hml0
  have hown : s.vm.findClass "com/example/heartwood/heartwood/store/PropertyTypeOfPinLaw" = some m.cls := findClass_of_methodNamed Bd.named
  have hnm := (name_of_methodNamed Bd.named Bd.method).1
  have X0 : Stand p l e room_1 s m #[(.int p0), (.int p1)] below meth c s₁ [] 0 0 := Stand.of_body Bd
  have e0 : s₁.heap = h0 := by rw [← hh, Bd.state]; rfl
  have N0 := Fr.nil n0
  have pre0 : ∀ t, Steps p.tables e below (s₁.setTop (mkF m 0 #[.val (.int p0), .val (.int p1), .unset] [])) t → Steps p.tables e below (s₁.setTop (entryFrame m #[(.int p0), (.int p1)] maxLocals)) t := fun t k => castTop (ef_0 m p0 p1) k
  obtain ⟨code, hcode, pre2⟩ : ∃ code : Int32, code = (if (p1 &&& (1 : Int32)) = (0 : Int32) then (p0 - (p0 / (16 : Int32)) * (16 : Int32)) else p0) ∧ ∀ t, Steps p.tables e below (s₁.setTop (mkF m 14 #[.val (.int p0), .val (.int p1), .unset] [(.int code)])) t → Steps p.tables e below (s₁.setTop (entryFrame m #[(.int p0), (.int p1)] maxLocals)) t := by
    have pre1 : ∀ t, Steps p.tables e below (s₁.setTop (mkF m 3 #[.val (.int p0), .val (.int p1), .unset] [(.int (p1 &&& (1 : Int32)))])) t → Steps p.tables e below (s₁.setTop (entryFrame m #[(.int p0), (.int p1)] maxLocals)) t := fun t kt => pre0 t (by
        show Steps p.tables e below (s₁.setTop (mkF m 0 #[.val (.int p0), .val (.int p1), .unset] [])) _
        refine XS.iloadN X0.here hx rfl (hb hby at_0) rfl ?_
        show Steps p.tables e below (s₁.setTop (mkF m 1 #[.val (.int p0), .val (.int p1), .unset] [(.int p1)])) _
        refine XS.iconst X0.here hx rfl (hb hby at_1) ?_
        show Steps p.tables e below (s₁.setTop (mkF m 2 #[.val (.int p0), .val (.int p1), .unset] [(.int (1 : Int32)), (.int p1)])) _
        refine XS.iand X0.here hx rfl (hb hby at_2) rfl ?_
        exact kt)
    by_cases hc3 : (p1 &&& (1 : Int32)) = (0 : Int32)
    · exact ⟨(p0 - (p0 / (16 : Int32)) * (16 : Int32)), (by rw [if_pos hc3]), fun t kt => pre1 t (by
          show Steps p.tables e below (s₁.setTop (mkF m 3 #[.val (.int p0), .val (.int p1), .unset] [(.int (p1 &&& (1 : Int32)))])) _
          refine XS.ifYes X0.here hx rfl (pc0 := 3) (pc' := 10) rfl (hb hby at_3) rfl ((if0 _ _).trans (teq (show (p1 &&& (1 : Int32)) = (0 : Int32) from hc3)).1) (by decide) (by decide) ?_
          show Steps p.tables e below (s₁.setTop (mkF m 10 #[.val (.int p0), .val (.int p1), .unset] [])) _
          refine XS.iloadN X0.here hx rfl (hb hby at_10) rfl ?_
          show Steps p.tables e below (s₁.setTop (mkF m 11 #[.val (.int p0), .val (.int p1), .unset] [(.int p0)])) _
          refine XS.bipush X0.here hx rfl (hb hby at_11) ?_
          show Steps p.tables e below (s₁.setTop (mkF m 13 #[.val (.int p0), .val (.int p1), .unset] [(.int (16 : Int32)), (.int p0)])) _
          refine XS.irem X0.here hx rfl (hb hby at_13) rfl (by decide) ?_
          exact kt)⟩
    · exact ⟨p0, (by rw [if_neg hc3]), fun t kt => pre1 t (by
          show Steps p.tables e below (s₁.setTop (mkF m 3 #[.val (.int p0), .val (.int p1), .unset] [(.int (p1 &&& (1 : Int32)))])) _
          refine XS.ifNo X0.here hx rfl (hb hby at_3) rfl ((if0 _ _).trans (feq (show ¬ ((p1 &&& (1 : Int32)) = (0 : Int32)) from hc3)).1) ?_
          show Steps p.tables e below (s₁.setTop (mkF m 6 #[.val (.int p0), .val (.int p1), .unset] [])) _
          refine XS.iloadN X0.here hx rfl (hb hby at_6) rfl ?_
          show Steps p.tables e below (s₁.setTop (mkF m 7 #[.val (.int p0), .val (.int p1), .unset] [(.int p0)])) _
          refine XS.goto X0.here hx rfl (pc0 := 7) (pc' := 14) rfl (hb hby at_7) (by decide) (by decide) ?_
          exact kt)⟩
  obtain ⟨_, _, ⟨T3, L3, k3, n3⟩, -, X3, ⟨Lc3, hQ3, l3, y3, z3⟩, st3⟩ := Jvm.LawKit.callS X0 hx (y := (⟨"com/example/heartwood/heartwood/store/PropertyType", "of", "(I)Lcom/example/heartwood/heartwood/store/PropertyType;"⟩ : MethodName)) hown (mvT hZ (hw _ (List.mem_of_getElem? (i := 0) rfl))) (mvT hZ (hw _ (List.mem_of_getElem? (i := 1) rfl))) (mvT hZ (hw _ (List.mem_of_getElem? (i := 2) rfl))) (mvT hZ (hw _ (List.mem_of_getElem? (i := 3) rfl))) (by decide) (backOf (W := 0) (rm1 l Z a0 hw [] code bV kV u0 u1 u2 u3 u4 u5 u6 u7 u8 u9 u10 u11 h0 n0 Z0 S0 E0 F0 S1 E1 F1 S2 E2 F2 S3 E3 F3 S4 E4 F4 S5 E5 F5 S6 E6 F6 S7 E7 F7 S8 E8 F8 S9 E9 F9 S10 E10 F10 S11 E11 F11 SV EV AV) hZ (hw _ (List.mem_of_getElem? (i := 3) rfl)) (hw _ (List.mem_of_getElem? (i := 2) rfl)) (by decide) (by decide)) (g := (mkF m 16 #[.val (.int p0), .val (.int p1), .val (.int code)] [(.int code)])) rfl (by rw [hml]; rfl) (argsL := [(.int code)]) (rest := []) (lenOf pd_1 rfl) rfl (by show 2 * 0 + _ ≤ _; exact Nat.le_of_eq rfl) (hb hby at_16) (fun _ _ => ⟨rfl, e0, (by decide : 0 + 1 ≤ _), (by decide : 0 + 12 ≤ _)⟩)
  dsimp only [Pt.U, Pt.locs, Pt.cells, Pt.slots] at X3 l3 y3 z3 st3 hQ3
  subst l3 y3 z3
  obtain ⟨rfl, N3q, K3⟩ := hQ3
  have KK3 : Keep h0 T3.heap [] := Keep.trans (Keep.refl h0 []) K3 own_side0
  have Z3 : n0 ≤ T3.heap.size := Nat.le_trans Z0 KK3.1
  have N3 := Fr.app N0 N3q
  have f5 := (own_sta_keep S0 K3)
  have f6 := (own_sta_keep S1 K3)
  have f7 := (own_sta_keep S2 K3)
  have f8 := (own_sta_keep S3 K3)
  have f9 := (own_sta_keep S4 K3)
  have f10 := (own_sta_keep S5 K3)
  have f11 := (own_sta_keep S6 K3)
  have f12 := (own_sta_keep S7 K3)
  have f13 := (own_sta_keep S8 K3)
  have f14 := (own_sta_keep S9 K3)
  have f15 := (own_sta_keep S10 K3)
  have f16 := (own_sta_keep S11 K3)
  obtain ⟨_, _, ⟨T4, L4, k4, n4⟩, -, X4, ⟨Lc4, hQ4, l4, y4, z4⟩, st4⟩ := Jvm.LawKit.callS X3 hx (y := (⟨"com/example/heartwood/heartwood/store/PropertyTypeOfPinLaw", "expected", "(I)Lcom/example/heartwood/heartwood/store/PropertyType;"⟩ : MethodName)) hown (mvT hZ (hw _ (List.mem_of_getElem? (i := 33) rfl))) (mvT hZ (hw _ (List.mem_of_getElem? (i := 34) rfl))) (mvT hZ (hw _ (List.mem_of_getElem? (i := 35) rfl))) (mvT hZ (hw _ (List.mem_of_getElem? (i := 36) rfl))) (by decide) (backOf (W := 1) (rm3 l Z a0 hw [] code u0 u1 u2 u3 u4 u5 u6 u7 u8 u9 u10 u11 T3.heap n0 Z3 f5 f6 f7 f8 f9 f10 f11 f12 f13 f14 f15 f16) hZ (hw _ (List.mem_of_getElem? (i := 36) rfl)) (hw _ (List.mem_of_getElem? (i := 35) rfl)) (by decide) (by decide)) (g := (mkF m 20 #[.val (.int p0), .val (.int p1), .val (.int code)] [(.int code), (ofV code u0 u1 u2 u3 u4 u5 u6 u7 u8 u9 u10 u11)])) rfl (by rw [hml]; rfl) (argsL := [(.int code)]) (rest := [(ofV code u0 u1 u2 u3 u4 u5 u6 u7 u8 u9 u10 u11)]) (lenOf pd_1 rfl) rfl (own_w1 (own_of_ref _ _ _ _ _ _ _ _ _ _ _ _ _)) (hb hby at_20) (fun _ _ => ⟨rfl, rfl, (by decide : 1 + 0 ≤ _), (by decide : 12 + 0 ≤ _)⟩)
  dsimp only [Pt.U, Pt.locs, Pt.cells, Pt.slots] at X4 l4 y4 z4 st4 hQ4
  subst l4 y4 z4
  obtain ⟨rfl, N4q, e4⟩ := hQ4
  have N4 := Fr.app N3 N4q
  obtain ⟨fs, hr, hrun, hended, hW, hsame⟩ := X4.leave (v := some (.int (1 : Int32))) (fun h => by rw [Bd.returns] at h; cases h)
  refine ⟨_, _, pre2 _ ?_, hrun, hended, _, _, rfl, ?_, ⟨_, rfl⟩, hW, hsame.mono (by decide) (by decide)⟩
  · show Steps p.tables e below (s₁.setTop (mkF m 14 #[.val (.int p0), .val (.int p1), .unset] [(.int code)])) _
    refine XS.istoreN X0.here hx rfl (hb hby at_14) rfl (l' := #[.val (.int p0), .val (.int p1), .val (.int code)]) rfl ?_
    show Steps p.tables e below (s₁.setTop (mkF m 15 #[.val (.int p0), .val (.int p1), .val (.int code)] [])) _
    refine XS.iloadN X0.here hx rfl (hb hby at_15) rfl ?_
    show Steps p.tables e below (s₁.setTop (mkF m 16 #[.val (.int p0), .val (.int p1), .val (.int code)] [(.int code)])) _
    refine st3 _ ?_
    show Steps p.tables e below (T3.setTop (mkF m 19 #[.val (.int p0), .val (.int p1), .val (.int code)] [(ofV code u0 u1 u2 u3 u4 u5 u6 u7 u8 u9 u10 u11)])) _
    refine XS.iloadN X3.here hx rfl (hb hby at_19) rfl ?_
    show Steps p.tables e below (T3.setTop (mkF m 20 #[.val (.int p0), .val (.int p1), .val (.int code)] [(.int code), (ofV code u0 u1 u2 u3 u4 u5 u6 u7 u8 u9 u10 u11)])) _
    refine st4 _ ?_
    show Steps p.tables e below (T4.setTop (mkF m 23 #[.val (.int p0), .val (.int p1), .val (.int code)] [(exV code u0 u1 u2 u3 u4 u5 u6 u7 u8 u9 u10 u11), (ofV code u0 u1 u2 u3 u4 u5 u6 u7 u8 u9 u10 u11)])) _
    refine Jvm.RoadKit.acmp (g := (mkF m 23 #[.val (.int p0), .val (.int p1), .val (.int code)] [(exV code u0 u1 u2 u3 u4 u5 u6 u7 u8 u9 u10 u11), (ofV code u0 u1 u2 u3 u4 u5 u6 u7 u8 u9 u10 u11)])) X4 hx rfl (own_of_ref _ _ _ _ _ _ _ _ _ _ _ _ _) (own_ex_ref _ _ _ _ _ _ _ _ _ _ _ _ _) (pc0 := 23) (pc' := 26) (same := true) rfl (hb hby at_23) rfl (decide_eq_true (own_of_ex code u0 u1 u2 u3 u4 u5 u6 u7 u8 u9 u10 u11)) (by decide) (by decide) ?_
    show Steps p.tables e below (T4.setTop (mkF m 26 #[.val (.int p0), .val (.int p1), .val (.int code)] [])) _
    refine XS.iconst X4.here hx rfl (hb hby at_26) ?_
    show Steps p.tables e below (T4.setTop (mkF m 27 #[.val (.int p0), .val (.int p1), .val (.int code)] [(.int (1 : Int32))])) _
    refine XS.goto X4.here hx rfl (pc0 := 27) (pc' := 31) rfl (hb hby at_27) (by decide) (by decide) ?_
    show Steps p.tables e below (T4.setTop (mkF m 31 #[.val (.int p0), .val (.int p1), .val (.int code)] [(.int (1 : Int32))])) _
    exact retN X4 hx (t := .boolean) Bd.returns (by simp) (hb hby at_31) hr
  · show Q0 h0 n0 _ T4.heap _
    rw [e4]
    exact ⟨rfl, N4⟩
set_option maxRecDepth 65536 in
set_option maxHeartbeats 40000000 in
theorem comes_1 {Post : Tables → Env → Array Value → State → Outcome → State → Prop} (hpost : ∀ tb e args s v u, (limb_1_1.after args s (.returned v) u = true ∧ limb_1_2.after args s (.returned v) u = true ∧ True) → FrameEnd s (.returned v) u (Jvm.fieldLocs frame_1_writes args s ++ Jvm.arrayLocs frame_1_arrays args s ++ Jvm.staticLocs frame_1_statics s) 16 128 → Post tb e args s (.returned v) u) :
    ArmFor flags0 classFile x code maxLocals ret World_1 tables_1 room_1 Calls_1 rest_1 Pre_1 Post := by
  intro l hfl _ _ p e ha hc hk s m args below hf hA hF happ hP
  obtain ⟨hcalls, hrest, hpre⟩ := hP
  obtain ⟨-, -, -, hnamed, -, -, -, hat⟩ := (Spec.applies_iff hf).mp happ
  obtain ⟨hg, hn⟩ := and_e (Cond.before_iff.mp (show (Jvm.Cond.and given_1 narrow_1).before args s = true from hpre))
  obtain ⟨hcnt, hg1⟩ := and_e hg
  obtain ⟨ha0, hg2⟩ := and_e hg1
  have ha1 := hg2
  obtain ⟨w0, w1, rfl⟩ : ∃ w0 w1 : Value, args = #[w0, w1] := by
    have hs : args.size = 2 := by simpa [Cond.value, given_1] using hcnt
    obtain ⟨L⟩ := args
    match L, hs with
    | [w0, w1], _ => exact ⟨w0, w1, rfl⟩
  have hw := fun d (hd : d ∈ tables_1) => atoms_spec (ws := Jvm.Cond.code x code maxLocals ret :: tables_1) hat d (List.mem_cons_of_mem _ hd)
  have hfit : Fit s := fun {y c} hc i hi => by
    obtain ⟨ha, rfl⟩ := Array.getElem?_eq_some_iff.mp hc
    have q := List.all_eq_true.mp ((Array.all_eq_true_iff_forall_mem.mp hF) _ (Array.getElem_mem ha)) i (List.mem_range.mpr hi)
    simpa [Array.getElem?_eq_getElem hi] using q
  obtain ⟨i0, ei0⟩ := is_v ha0
  obtain rfl : w0 = (.int i0) := Option.some.inj ei0
  obtain ⟨i1, ei1⟩ := is_v ha1
  obtain rfl : w1 = (.int i1) := Option.some.inj ei1
  obtain ⟨hn0, hm0⟩ := and_e hn
  obtain ⟨hn1, hm1⟩ := and_e hm0
  obtain ⟨hn2, hm2⟩ := and_e hm1
  obtain ⟨hn3, hm3⟩ := and_e hm2
  obtain ⟨hn4, hm4⟩ := and_e hm3
  obtain ⟨hn5, hm5⟩ := and_e hm4
  obtain ⟨hn6, hm6⟩ := and_e hm5
  obtain ⟨hn7, hm7⟩ := and_e hm6
  obtain ⟨hn8, hm8⟩ := and_e hm7
  obtain ⟨hn9, hm9⟩ := and_e hm8
  obtain ⟨hn10, hm10⟩ := and_e hm9
  obtain ⟨hn11, hm11⟩ := and_e hm10
  obtain ⟨hn12, hm12⟩ := and_e hm11
  obtain ⟨hn13, hm13⟩ := and_e hm12
  obtain ⟨hn14, hm14⟩ := and_e hm13
  obtain ⟨hn15, hm15⟩ := and_e hm14
  obtain ⟨hn16, hm16⟩ := and_e hm15
  obtain ⟨hn17, hm17⟩ := and_e hm16
  obtain ⟨hn18, hm18⟩ := and_e hm17
  obtain ⟨hn19, hm19⟩ := and_e hm18
  obtain ⟨hn20, hm20⟩ := and_e hm19
  obtain ⟨hn21, hm21⟩ := and_e hm20
  obtain ⟨hn22, hm22⟩ := and_e hm21
  obtain ⟨hn23, hm23⟩ := and_e hm22
  obtain ⟨hn24, hm24⟩ := and_e hm23
  obtain ⟨hn25, hm25⟩ := and_e hm24
  obtain ⟨hn26, hm26⟩ := and_e hm25
  obtain ⟨hn27, hm27⟩ := and_e hm26
  obtain ⟨hn28, hm28⟩ := and_e hm27
  obtain ⟨hn29, hm29⟩ := and_e hm28
  obtain ⟨hn30, hm30⟩ := and_e hm29
  obtain ⟨hn31, hm31⟩ := and_e hm30
  obtain ⟨hn32, hm32⟩ := and_e hm31
  obtain ⟨hn33, hm33⟩ := and_e hm32
  obtain ⟨hn34, hm34⟩ := and_e hm33
  obtain ⟨hn35, hm35⟩ := and_e hm34
  obtain ⟨hn36, hm36⟩ := and_e hm35
  obtain ⟨hn37, hn38⟩ := and_e hm36
  obtain ⟨u0, ev0⟩ := exa_v hn3
  have S0 := Sta.start ev0 (Or.inr ⟨(hw _ (List.mem_of_getElem? (i := 2) rfl)), (hw _ (List.mem_of_getElem? (i := 16) rfl))⟩)
  have E0 := Exa.start ev0 hn3
  have F0 := Fld.start ((fld_at ev0).symm.trans (own_eqInt hn27))
  obtain ⟨u1, ev1⟩ := exa_v hn5
  have S1 := Sta.start ev1 (Or.inr ⟨(hw _ (List.mem_of_getElem? (i := 2) rfl)), (hw _ (List.mem_of_getElem? (i := 17) rfl))⟩)
  have E1 := Exa.start ev1 hn5
  have F1 := Fld.start ((fld_at ev1).symm.trans (own_eqInt hn28))
  obtain ⟨u2, ev2⟩ := exa_v hn7
  have S2 := Sta.start ev2 (Or.inr ⟨(hw _ (List.mem_of_getElem? (i := 2) rfl)), (hw _ (List.mem_of_getElem? (i := 18) rfl))⟩)
  have E2 := Exa.start ev2 hn7
  have F2 := Fld.start ((fld_at ev2).symm.trans (own_eqInt hn29))
  obtain ⟨u3, ev3⟩ := exa_v hn9
  have S3 := Sta.start ev3 (Or.inr ⟨(hw _ (List.mem_of_getElem? (i := 2) rfl)), (hw _ (List.mem_of_getElem? (i := 19) rfl))⟩)
  have E3 := Exa.start ev3 hn9
  have F3 := Fld.start ((fld_at ev3).symm.trans (own_eqInt hn30))
  obtain ⟨u4, ev4⟩ := exa_v hn11
  have S4 := Sta.start ev4 (Or.inr ⟨(hw _ (List.mem_of_getElem? (i := 2) rfl)), (hw _ (List.mem_of_getElem? (i := 20) rfl))⟩)
  have E4 := Exa.start ev4 hn11
  have F4 := Fld.start ((fld_at ev4).symm.trans (own_eqInt hn31))
  obtain ⟨u5, ev5⟩ := exa_v hn13
  have S5 := Sta.start ev5 (Or.inr ⟨(hw _ (List.mem_of_getElem? (i := 2) rfl)), (hw _ (List.mem_of_getElem? (i := 21) rfl))⟩)
  have E5 := Exa.start ev5 hn13
  have F5 := Fld.start ((fld_at ev5).symm.trans (own_eqInt hn32))
  obtain ⟨u6, ev6⟩ := exa_v hn15
  have S6 := Sta.start ev6 (Or.inr ⟨(hw _ (List.mem_of_getElem? (i := 2) rfl)), (hw _ (List.mem_of_getElem? (i := 22) rfl))⟩)
  have E6 := Exa.start ev6 hn15
  have F6 := Fld.start ((fld_at ev6).symm.trans (own_eqInt hn33))
  obtain ⟨u7, ev7⟩ := exa_v hn17
  have S7 := Sta.start ev7 (Or.inr ⟨(hw _ (List.mem_of_getElem? (i := 2) rfl)), (hw _ (List.mem_of_getElem? (i := 23) rfl))⟩)
  have E7 := Exa.start ev7 hn17
  have F7 := Fld.start ((fld_at ev7).symm.trans (own_eqInt hn34))
  obtain ⟨u8, ev8⟩ := exa_v hn19
  have S8 := Sta.start ev8 (Or.inr ⟨(hw _ (List.mem_of_getElem? (i := 2) rfl)), (hw _ (List.mem_of_getElem? (i := 24) rfl))⟩)
  have E8 := Exa.start ev8 hn19
  have F8 := Fld.start ((fld_at ev8).symm.trans (own_eqInt hn35))
  obtain ⟨u9, ev9⟩ := exa_v hn21
  have S9 := Sta.start ev9 (Or.inr ⟨(hw _ (List.mem_of_getElem? (i := 2) rfl)), (hw _ (List.mem_of_getElem? (i := 25) rfl))⟩)
  have E9 := Exa.start ev9 hn21
  have F9 := Fld.start ((fld_at ev9).symm.trans (own_eqInt hn36))
  obtain ⟨u10, ev10⟩ := exa_v hn23
  have S10 := Sta.start ev10 (Or.inr ⟨(hw _ (List.mem_of_getElem? (i := 2) rfl)), (hw _ (List.mem_of_getElem? (i := 26) rfl))⟩)
  have E10 := Exa.start ev10 hn23
  have F10 := Fld.start ((fld_at ev10).symm.trans (own_eqInt hn37))
  obtain ⟨u11, ev11⟩ := exa_v hn25
  have S11 := Sta.start ev11 (Or.inr ⟨(hw _ (List.mem_of_getElem? (i := 2) rfl)), (hw _ (List.mem_of_getElem? (i := 27) rfl))⟩)
  have E11 := Exa.start ev11 hn25
  have F11 := Fld.start ((fld_at ev11).symm.trans (own_eqInt hn38))
  obtain ⟨bV, clV, evV, ArV, szV, lnV⟩ := own_arr hn0 hn2
  have SV := Sta.start evV (Or.inr ⟨(hw _ (List.mem_of_getElem? (i := 2) rfl)), (hw _ (List.mem_of_getElem? (i := 8) rfl))⟩)
  have EV := Exa.start evV hn1
  have AV : Arv s s.heap bV clV.cls (.object "com/example/heartwood/heartwood/store/PropertyType") (12 : Int32) [(.ref u0), (.ref u1), (.ref u2), (.ref u3), (.ref u4), (.ref u5), (.ref u6), (.ref u7), (.ref u8), (.ref u9), (.ref u10), (.ref u11)] .null := Arv.start hfit ArV szV lnV (by decide) rfl ⟨own_elem evV ArV hn4 ev0 (by decide), own_elem evV ArV hn6 ev1 (by decide), own_elem evV ArV hn8 ev2 (by decide), own_elem evV ArV hn10 ev3 (by decide), own_elem evV ArV hn12 ev4 (by decide), own_elem evV ArV hn14 ev5 (by decide), own_elem evV ArV hn16 ev6 (by decide), own_elem evV ArV hn18 ev7 (by decide), own_elem evV ArV hn20 ev8 (by decide), own_elem evV ArV hn22 ev9 (by decide), own_elem evV ArV hn24 ev10 (by decide), own_elem evV ArV hn26 ev11 (by decide), trivial⟩
  obtain ⟨n, o, h1, h2, h3, _, L, rfl, ⟨rfl, N⟩, hq⟩ := rm0 l s _ hw tables_1 i0 i1 bV clV.cls u0 u1 u2 u3 u4 u5 u6 u7 u8 u9 u10 u11 s.heap s.heap.size (Nat.le_refl _) S0 E0 F0 S1 E1 F1 S2 E2 F2 S3 E3 F3 S4 E4 F4 S5 E5 F5 S6 E6 F6 S7 E7 F7 S8 E8 F8 S9 E9 F9 S10 E10 F10 S11 E11 F11 SV EV AV p e ha hc hk s m _ below hf ((Spec.applies_iff_loose hf).mp happ).1 ⟨rfl, State.Warmed39.refl s, rfl⟩ trivial
  refine ⟨n, _, h1, h2, h3, hpost _ _ _ _ _ _ ⟨Cond.after_iff.mpr rfl, Cond.after_iff.mpr (eq_i res_at (Term.int_eval (1)) rfl), trivial⟩ ⟨hq.1, hq.2.1, (hq.2.2.sift fun y hy => Or.inr (N y hy)).mono (by decide) (by decide)⟩⟩
theorem main_1_1 : Claimed_1_1 := comes_1 fun _ _ _ _ _ _ h hF => ⟨h.1, hF⟩
theorem main_1_2 : Claimed_1_2 := comes_1 fun _ _ _ _ _ _ h hF => ⟨h.2.1, hF⟩
end Jvm.Pilot.@@N@@
namespace Jvm.Pilot.@@N@@
open Jvm Jvm.ClassFile Sem Op Lib Jvm.Free Jvm.Stand Jvm.Pilot.@@N@@.Jvm.D
/-! MADE BY PROGRAM (witnessworld.py) out of the Statement's table words and the real class files: 13 classes; the members and pool entries that the words name. The judged class is class 1, her method 1. -/
namespace start1
open Jvm.ClassFile
def u (s : String) : CpInfo := .utf8 (stringToUtf16 s)
/-- a pool by its gaps: so many unusable entries, then the entry; so many at the end -/
def gap : Nat → List CpInfo → List CpInfo
  | 0, r => r
  | n + 1, r => .unusable :: gap n r
def poolList (es : List (Nat × CpInfo)) (last : Nat) : List CpInfo := es.foldr (fun e r => gap e.1 (e.2 :: r)) (gap last [])
def pool (es : List (Nat × CpInfo)) (last : Nat) : Array CpInfo := ⟨poolList es last⟩
def fileOf (pool : Array CpInfo) (this : Nat) (attrs : Array Attribute := #[]) (ms : Array MethodInfo := #[]) (fl : Nat := 33) (sup : Nat := 0) (ifs : Array Nat := #[]) (fds : Array FieldInfo := #[]) : ClassFile where
  minorVersion := 0
  majorVersion := 65
  constantPool := pool
  accessFlags := fl
  thisClass := this
  superClass := sup
  interfaces := ifs
  fields := fds
  methods := ms
  attributes := attrs
def plain (name : String) (sup : Option ClassId) : Class where
  name := name
  kind := .ordinary
  loader := none
  accessFlags := 33
  super := sup
  interfaces := #[]
  cf := none
  fields := #[]
  methods := #[]
  instanceTypes := #[]
  staticTypes := #[]
  resolved := #[]
  callSites := []
  init := .initialized
  statics := none
  mirror := none

def pool0 : Array CpInfo := pool [(5, u "<init>"), (0, u "()V"), (1, .class_ 10), (1, u "java/lang/Object"), (85, u "clone"), (0, u "()Ljava/lang/Object;")] 26

def k0m0 : Method := { name := "<init>", desc := "()V", sig := { parameters := [], returnType := none }, accessFlags := 1, code := none }
def k0m1 : Method := { name := "clone", desc := "()Ljava/lang/Object;", sig := { parameters := [], returnType := some (.object "java/lang/Object") }, accessFlags := 260, code := none }
/-- java/lang/Object -/
def k0 : Class := { plain "java/lang/Object" none with
  accessFlags := 33
  interfaces := #[]
  cf := some (fileOf pool0 8 #[] #[{ accessFlags := 1, nameIndex := 5, descriptorIndex := 6, attributes := #[] }, { accessFlags := 260, nameIndex := 96, descriptorIndex := 97, attributes := #[] }] 33 0 #[] #[])
  fields := #[]
  methods := #[k0m0, k0m1]
  instanceTypes := #[]
  staticTypes := #[]
  resolved := Array.replicate 124 none
  statics := none }

def pool1 : Array CpInfo := pool [(2, .class_ 4), (1, u "java/lang/Object"), (0, u "<init>"), (0, u "()V"), (0, .methodref 8 9), (0, .class_ 10), (0, .nameAndType 11 12), (0, u "com/example/heartwood/heartwood/store/PropertyType"), (0, u "of"), (0, u "(I)Lcom/example/heartwood/heartwood/store/PropertyType;"), (0, .methodref 14 15), (0, .class_ 16), (0, .nameAndType 17 12), (0, u "com/example/heartwood/heartwood/store/PropertyTypeOfPinLaw"), (0, u "expected"), (0, .fieldref 8 19), (0, .nameAndType 20 21), (0, u "STRING"), (0, u "Lcom/example/heartwood/heartwood/store/PropertyType;"), (0, .fieldref 8 23), (0, .nameAndType 24 21), (0, u "BINARY"), (0, .fieldref 8 26), (0, .nameAndType 27 21), (0, u "LONG"), (0, .fieldref 8 29), (0, .nameAndType 30 21), (0, u "DOUBLE"), (0, .fieldref 8 32), (0, .nameAndType 33 21), (0, u "DATE"), (0, .fieldref 8 35), (0, .nameAndType 36 21), (0, u "BOOLEAN"), (0, .fieldref 8 38), (0, .nameAndType 39 21), (0, u "NAME"), (0, .fieldref 8 41), (0, .nameAndType 42 21), (0, u "PATH"), (0, .fieldref 8 44), (0, .nameAndType 45 21), (0, u "REFERENCE"), (0, .fieldref 8 47), (0, .nameAndType 48 21), (0, u "WEAKREFERENCE"), (0, .fieldref 8 50), (0, .nameAndType 51 21), (0, u "URI"), (0, .fieldref 8 53), (0, .nameAndType 54 21), (0, u "DECIMAL"), (2, u "law"), (0, u "(II)Z")] 3

def k1m0 : Method := { name := "<init>", desc := "()V", sig := { parameters := [], returnType := none }, accessFlags := 2, code := none }
def k1c1 : Code := { maxStack := 2, maxLocals := 3, code := code, exceptionTable := #[], attributes := #[] }
def k1m1 : Method := { name := "law", desc := "(II)Z", sig := { parameters := [.int, .int], returnType := some .boolean }, accessFlags := 9, code := some k1c1 }
def k1c2 : Code := { maxStack := 2, maxLocals := 1, code := method_3_code, exceptionTable := #[], attributes := #[] }
def k1m2 : Method := { name := "expected", desc := "(I)Lcom/example/heartwood/heartwood/store/PropertyType;", sig := { parameters := [.int], returnType := some (.object "com/example/heartwood/heartwood/store/PropertyType") }, accessFlags := 10, code := some k1c2 }
/-- com/example/heartwood/heartwood/store/PropertyTypeOfPinLaw -/
def k1 : Class := { plain "com/example/heartwood/heartwood/store/PropertyTypeOfPinLaw" (some 0) with
  accessFlags := 49
  interfaces := #[]
  cf := some (fileOf pool1 14 #[] #[{ accessFlags := 2, nameIndex := 5, descriptorIndex := 6, attributes := #[] }, { accessFlags := 9, nameIndex := 57, descriptorIndex := 58, attributes := #[] }, { accessFlags := 10, nameIndex := 17, descriptorIndex := 12, attributes := #[] }] 49 2 #[] #[])
  fields := #[]
  methods := #[k1m0, k1m1, k1m2]
  instanceTypes := #[]
  staticTypes := #[]
  resolved := Array.replicate 62 none
  statics := none }

def pool2 : Array CpInfo := pool [(1, .class_ 2), (0, u "java/lang/constant/Constable"), (0, .class_ 4), (0, u "java/lang/Object")] 6

/-- java/lang/constant/Constable -/
def k2 : Class := { plain "java/lang/constant/Constable" (some 0) with
  accessFlags := 1537
  interfaces := #[]
  cf := some (fileOf pool2 1 #[] #[] 1537 3 #[] #[])
  fields := #[]
  methods := #[]
  instanceTypes := #[]
  staticTypes := #[]
  resolved := Array.replicate 11 none
  statics := none }

def pool3 : Array CpInfo := pool [(1, .class_ 2), (0, u "java/lang/Comparable"), (0, .class_ 4), (0, u "java/lang/Object")] 7

/-- java/lang/Comparable -/
def k3 : Class := { plain "java/lang/Comparable" (some 0) with
  accessFlags := 1537
  interfaces := #[]
  cf := some (fileOf pool3 1 #[] #[] 1537 3 #[] #[])
  fields := #[]
  methods := #[]
  instanceTypes := #[]
  staticTypes := #[]
  resolved := Array.replicate 12 none
  statics := none }

def pool4 : Array CpInfo := pool [(1, .class_ 2), (0, u "java/io/Serializable"), (0, .class_ 4), (0, u "java/lang/Object")] 2

/-- java/io/Serializable -/
def k4 : Class := { plain "java/io/Serializable" (some 0) with
  accessFlags := 1537
  interfaces := #[]
  cf := some (fileOf pool4 1 #[] #[] 1537 3 #[] #[])
  fields := #[]
  methods := #[]
  instanceTypes := #[]
  staticTypes := #[]
  resolved := Array.replicate 7 none
  statics := none }

def pool5 : Array CpInfo := pool [(2, .class_ 4), (1, u "java/lang/Enum"), (0, u "name"), (0, u "Ljava/lang/String;"), (2, u "ordinal"), (0, u "I"), (1, .class_ 14), (1, u "java/lang/Object"), (4, u "hash"), (86, .class_ 108), (1, u "java/lang/Enum$EnumDesc"), (2, .class_ 112), (0, u "java/lang/constant/Constable"), (0, .class_ 114), (0, u "java/lang/Comparable"), (0, .class_ 116), (0, u "java/io/Serializable")] 87

/-- java/lang/Enum -/
def k5 : Class := { plain "java/lang/Enum" (some 0) with
  accessFlags := 1057
  interfaces := #[2, 3, 4]
  cf := some (fileOf pool5 2 #[.nestMembers #[106]] #[] 1057 12 #[111, 113, 115] #[{ accessFlags := 18, nameIndex := 5, descriptorIndex := 6, attributes := #[] }, { accessFlags := 18, nameIndex := 9, descriptorIndex := 10, attributes := #[] }, { accessFlags := 2, nameIndex := 19, descriptorIndex := 10, attributes := #[] }])
  fields := #[{ name := "name", type := (.object "java/lang/String"), accessFlags := 18, slot := 0, constantValue := 0 }, { name := "ordinal", type := .int, accessFlags := 18, slot := 1, constantValue := 0 }, { name := "hash", type := .int, accessFlags := 2, slot := 2, constantValue := 0 }]
  methods := #[]
  instanceTypes := #[(.object "java/lang/String"), .int, .int]
  staticTypes := #[]
  resolved := Array.replicate 204 none
  statics := none }

def pool6 : Array CpInfo := pool [(1, .class_ 2), (0, u "com/example/heartwood/heartwood/store/PropertyType"), (2, u "STRING"), (0, u "Lcom/example/heartwood/heartwood/store/PropertyType;"), (2, u "BINARY"), (2, u "LONG"), (2, u "DOUBLE"), (2, u "DATE"), (2, u "BOOLEAN"), (2, u "NAME"), (2, u "PATH"), (2, u "REFERENCE"), (2, u "WEAKREFERENCE"), (2, u "URI"), (2, u "DECIMAL"), (0, .fieldref 1 41), (0, .nameAndType 42 43), (0, u "$VALUES"), (0, u "[Lcom/example/heartwood/heartwood/store/PropertyType;"), (0, .methodref 45 46), (0, .class_ 43), (0, .nameAndType 47 48), (0, u "clone"), (0, u "()Ljava/lang/Object;"), (1, .class_ 52), (1, u "java/lang/Enum"), (6, .fieldref 1 60), (0, .nameAndType 61 62), (0, u "code"), (0, u "I"), (2, u "encoding"), (0, u "Lcom/example/heartwood/heartwood/store/Encoding;"), (6, .methodref 1 74), (0, .nameAndType 75 76), (0, u "values"), (0, u "()[Lcom/example/heartwood/heartwood/store/PropertyType;"), (42, u "of"), (0, u "(I)Lcom/example/heartwood/heartwood/store/PropertyType;")] 6

def k6c0 : Code := { maxStack := 1, maxLocals := 0, code := prog_46_method_1_code, exceptionTable := #[], attributes := #[] }
def k6m0 : Method := { name := "values", desc := "()[Lcom/example/heartwood/heartwood/store/PropertyType;", sig := { parameters := [], returnType := some (.array (.object "com/example/heartwood/heartwood/store/PropertyType")) }, accessFlags := 9, code := some k6c0 }
def k6c1 : Code := { maxStack := 2, maxLocals := 5, code := prog_46_method_5_code, exceptionTable := #[], attributes := #[] }
def k6m1 : Method := { name := "of", desc := "(I)Lcom/example/heartwood/heartwood/store/PropertyType;", sig := { parameters := [.int], returnType := some (.object "com/example/heartwood/heartwood/store/PropertyType") }, accessFlags := 8, code := some k6c1 }
/-- com/example/heartwood/heartwood/store/PropertyType -/
def k6 : Class := { plain "com/example/heartwood/heartwood/store/PropertyType" (some 5) with
  accessFlags := 16433
  interfaces := #[]
  cf := some (fileOf pool6 1 #[] #[{ accessFlags := 9, nameIndex := 75, descriptorIndex := 76, attributes := #[] }, { accessFlags := 8, nameIndex := 119, descriptorIndex := 120, attributes := #[] }] 16433 50 #[] #[{ accessFlags := 16409, nameIndex := 5, descriptorIndex := 6, attributes := #[] }, { accessFlags := 16409, nameIndex := 9, descriptorIndex := 6, attributes := #[] }, { accessFlags := 16409, nameIndex := 12, descriptorIndex := 6, attributes := #[] }, { accessFlags := 16409, nameIndex := 15, descriptorIndex := 6, attributes := #[] }, { accessFlags := 16409, nameIndex := 18, descriptorIndex := 6, attributes := #[] }, { accessFlags := 16409, nameIndex := 21, descriptorIndex := 6, attributes := #[] }, { accessFlags := 16409, nameIndex := 24, descriptorIndex := 6, attributes := #[] }, { accessFlags := 16409, nameIndex := 27, descriptorIndex := 6, attributes := #[] }, { accessFlags := 16409, nameIndex := 30, descriptorIndex := 6, attributes := #[] }, { accessFlags := 16409, nameIndex := 33, descriptorIndex := 6, attributes := #[] }, { accessFlags := 16409, nameIndex := 36, descriptorIndex := 6, attributes := #[] }, { accessFlags := 16409, nameIndex := 39, descriptorIndex := 6, attributes := #[] }, { accessFlags := 16, nameIndex := 61, descriptorIndex := 62, attributes := #[] }, { accessFlags := 16, nameIndex := 65, descriptorIndex := 66, attributes := #[] }, { accessFlags := 4122, nameIndex := 42, descriptorIndex := 43, attributes := #[] }])
  fields := #[{ name := "STRING", type := (.object "com/example/heartwood/heartwood/store/PropertyType"), accessFlags := 16409, slot := 0, constantValue := 0 }, { name := "BINARY", type := (.object "com/example/heartwood/heartwood/store/PropertyType"), accessFlags := 16409, slot := 1, constantValue := 0 }, { name := "LONG", type := (.object "com/example/heartwood/heartwood/store/PropertyType"), accessFlags := 16409, slot := 2, constantValue := 0 }, { name := "DOUBLE", type := (.object "com/example/heartwood/heartwood/store/PropertyType"), accessFlags := 16409, slot := 3, constantValue := 0 }, { name := "DATE", type := (.object "com/example/heartwood/heartwood/store/PropertyType"), accessFlags := 16409, slot := 4, constantValue := 0 }, { name := "BOOLEAN", type := (.object "com/example/heartwood/heartwood/store/PropertyType"), accessFlags := 16409, slot := 5, constantValue := 0 }, { name := "NAME", type := (.object "com/example/heartwood/heartwood/store/PropertyType"), accessFlags := 16409, slot := 6, constantValue := 0 }, { name := "PATH", type := (.object "com/example/heartwood/heartwood/store/PropertyType"), accessFlags := 16409, slot := 7, constantValue := 0 }, { name := "REFERENCE", type := (.object "com/example/heartwood/heartwood/store/PropertyType"), accessFlags := 16409, slot := 8, constantValue := 0 }, { name := "WEAKREFERENCE", type := (.object "com/example/heartwood/heartwood/store/PropertyType"), accessFlags := 16409, slot := 9, constantValue := 0 }, { name := "URI", type := (.object "com/example/heartwood/heartwood/store/PropertyType"), accessFlags := 16409, slot := 10, constantValue := 0 }, { name := "DECIMAL", type := (.object "com/example/heartwood/heartwood/store/PropertyType"), accessFlags := 16409, slot := 11, constantValue := 0 }, { name := "code", type := .int, accessFlags := 16, slot := 3, constantValue := 0 }, { name := "encoding", type := (.object "com/example/heartwood/heartwood/store/Encoding"), accessFlags := 16, slot := 4, constantValue := 0 }, { name := "$VALUES", type := (.array (.object "com/example/heartwood/heartwood/store/PropertyType")), accessFlags := 4122, slot := 12, constantValue := 0 }]
  methods := #[k6m0, k6m1]
  instanceTypes := #[(.object "java/lang/String"), .int, .int, .int, (.object "com/example/heartwood/heartwood/store/Encoding")]
  staticTypes := #[(.object "com/example/heartwood/heartwood/store/PropertyType"), (.object "com/example/heartwood/heartwood/store/PropertyType"), (.object "com/example/heartwood/heartwood/store/PropertyType"), (.object "com/example/heartwood/heartwood/store/PropertyType"), (.object "com/example/heartwood/heartwood/store/PropertyType"), (.object "com/example/heartwood/heartwood/store/PropertyType"), (.object "com/example/heartwood/heartwood/store/PropertyType"), (.object "com/example/heartwood/heartwood/store/PropertyType"), (.object "com/example/heartwood/heartwood/store/PropertyType"), (.object "com/example/heartwood/heartwood/store/PropertyType"), (.object "com/example/heartwood/heartwood/store/PropertyType"), (.object "com/example/heartwood/heartwood/store/PropertyType"), (.array (.object "com/example/heartwood/heartwood/store/PropertyType"))]
  resolved := Array.replicate 127 none
  statics := some 0 }

def pool7 : Array CpInfo := pool [(1, .class_ 2), (0, u "java/lang/Cloneable"), (0, .class_ 4), (0, u "java/lang/Object")] 2

/-- java/lang/Cloneable -/
def k7 : Class := { plain "java/lang/Cloneable" (some 0) with
  accessFlags := 1537
  interfaces := #[]
  cf := some (fileOf pool7 1 #[] #[] 1537 3 #[] #[])
  fields := #[]
  methods := #[]
  instanceTypes := #[]
  staticTypes := #[]
  resolved := Array.replicate 7 none
  statics := none }

/-- the primitive byte -/
def k8 : Class := { plain "byte" none with kind := .primitive 'B', accessFlags := 0x411 }
/-- [B -/
def k9 : Class := { plain "[B" (some 0) with kind := .array 8 .byte, interfaces := #[7, 4], accessFlags := 1041 }

/-- the primitive int -/
def k10 : Class := { plain "int" none with kind := .primitive 'I', accessFlags := 0x411 }
/-- [I -/
def k11 : Class := { plain "[I" (some 0) with kind := .array 10 .int, interfaces := #[7, 4], accessFlags := 1041 }

/-- [Lcom/example/heartwood/heartwood/store/PropertyType; -/
def k12 : Class := { plain "[Lcom/example/heartwood/heartwood/store/PropertyType;" (some 0) with kind := .array 6 (.object "com/example/heartwood/heartwood/store/PropertyType"), interfaces := #[7, 4], accessFlags := 1041 }

def heap : Heap := #[{ cls := 6, slots := #[.ref 2, .ref 3, .ref 4, .ref 5, .ref 6, .ref 7, .ref 8, .ref 9, .ref 10, .ref 11, .ref 12, .ref 13, .ref 1], vm := .statics 6 },
  { cls := 12, slots := #[.ref 2, .ref 3, .ref 4, .ref 5, .ref 6, .ref 7, .ref 8, .ref 9, .ref 10, .ref 11, .ref 12, .ref 13], vm := .none },
  { cls := 6, slots := #[.null, .int 0, .int 0, .int 1, .null], vm := .none },
  { cls := 6, slots := #[.null, .int 0, .int 0, .int 2, .null], vm := .none },
  { cls := 6, slots := #[.null, .int 0, .int 0, .int 3, .null], vm := .none },
  { cls := 6, slots := #[.null, .int 0, .int 0, .int 4, .null], vm := .none },
  { cls := 6, slots := #[.null, .int 0, .int 0, .int 5, .null], vm := .none },
  { cls := 6, slots := #[.null, .int 0, .int 0, .int 6, .null], vm := .none },
  { cls := 6, slots := #[.null, .int 0, .int 0, .int 7, .null], vm := .none },
  { cls := 6, slots := #[.null, .int 0, .int 0, .int 8, .null], vm := .none },
  { cls := 6, slots := #[.null, .int 0, .int 0, .int 9, .null], vm := .none },
  { cls := 6, slots := #[.null, .int 0, .int 0, .int 10, .null], vm := .none },
  { cls := 6, slots := #[.null, .int 0, .int 0, .int 11, .null], vm := .none },
  { cls := 6, slots := #[.null, .int 0, .int 0, .int 12, .null], vm := .none }]
def classes : Array Class := #[k0, k1, k2, k3, k4, k5, k6, k7, k8, k9, k10, k11, k12]
def interned : List (Array UInt16 × Addr) := []
def slotsUsed : Nat := 85
def theMethod : MethodId := ⟨1, 1⟩
def args0 : Array Value := #[.int 5, .int 7]
def aboutOver (below : List Frame) : State where
  vm := { classes := classes, interned := interned.toArray }
  heap := heap
  slotsUsed := slotsUsed
  threads := #[{ frames := .invoking theMethod args0 :: below }]
def below0 : List Frame := [.native { method := ⟨0, 0⟩, args := #[] }]
def about1 : State := aboutOver below0
def p0 : Program := .bare "" "" ""
def e0 : Env := launch0.env 0 0 0
theorem w_frames : about1.frames = Frame.invoking theMethod args0 :: below0 := rfl
set_option maxRecDepth 65536 in
theorem w_args : argsFit about1.vm theMethod args0 = true := by decide +kernel
set_option maxRecDepth 65536 in
theorem w_heap : heapFits about1 = true := by decide +kernel
set_option maxRecDepth 65536 in
theorem w_runnable : about1.curStatus? = some .runnable := by decide +kernel
set_option maxRecDepth 65536 in
theorem w_alone : about1.alone = true := by decide +kernel
set_option maxRecDepth 65536 in
theorem w_named : about1.methodNamed? x = some theMethod := by decide +kernel
set_option maxRecDepth 65536 in
theorem w_hears : about1.hears theMethod below0 = true := by decide +kernel
set_option maxRecDepth 65536 in
theorem w_ripe : about1.ripe theMethod args0 below0 = true := by decide +kernel
theorem w_running : about1.status = .running := rfl
set_option maxRecDepth 65536 in
theorem w_room : about1.hasRoom e0.platform room_1 = true :=
  launch0.hasRoom_least _ room_1 (by decide +kernel) (by decide +kernel) (by decide +kernel) (by decide +kernel) (by decide +kernel) (by decide +kernel)
theorem allAtoms_all (ts : List Jvm.Cond) (a : Array Jvm.Value) (st : Jvm.State) : (allAtoms ts).before a st = ts.all (fun c => c.before a st) := by
  induction ts with
  | nil => rfl
  | cons c t ih =>
    show (Jvm.Cond.and c (allAtoms t)).before a st = _
    rw [Jvm.Cond.before_and, ih, List.all_cons]
def words1 : List Jvm.Cond := Jvm.Cond.code x code maxLocals ret :: tables_1
/-- a 'code' word, met by the world's own term for the bytes: nothing is compared byte by byte -/
theorem code_word {y : MethodName} {bytes : ByteArray} {mx : Nat} {rt : Option FieldType} {a : Array Value} {s : State} {m : MethodId} {meth : Method} {c : Code} (h1 : s.methodNamed? y = some m) (h2 : s.vm.method? m = some meth) (h3 : meth.code = some c) (h4 : c.code = bytes)
    (h5 : (c.maxLocals == mx && c.exceptionTable.isEmpty && decide (c.maxStack ≤ mostOperands) && decide (meth.sig.returnType = rt) && !meth.locks && decide (parseMethodDescriptor y.desc = some meth.sig)) = true) : (Jvm.Cond.code y bytes mx rt).before a s = true := by
  simp only [Bool.and_eq_true, beq_iff_eq, Bool.not_eq_true', decide_eq_true_eq] at h5
  obtain ⟨⟨⟨⟨⟨g1, g2⟩, g3⟩, g4⟩, g5⟩, g6⟩ := h5
  simp [Cond.before, Cond.holds, Cond.value, h1, h2, h3, h4, g1, g2, g3, g4, g5, g6]
def isCode : Jvm.Cond → Bool
  | .code _ _ _ _ => true
  | _ => false
theorem all_split {L : List Jvm.Cond} {P : Jvm.Cond → Bool} (h1 : L.all (fun c => isCode c || P c) = true) (h2 : ∀ c ∈ L.filter isCode, P c = true) : L.all P = true := by
  refine List.all_eq_true.mpr fun c hc => ?_
  have h := List.all_eq_true.mp h1 c hc
  rcases Bool.eq_false_or_eq_true (isCode c) with hi | hi
  · exact h2 c (List.mem_filter.mpr ⟨hc, hi⟩)
  · simpa [hi] using h
set_option maxRecDepth 65536 in
theorem w_c0 : (Jvm.Cond.code x code maxLocals ret).before args0 about1 = true := code_word (m := ⟨1, 1⟩) (meth := k1m1) (c := k1c1) (by decide +kernel) rfl rfl rfl (by decide +kernel)
set_option maxRecDepth 65536 in
theorem w_c1 : (Jvm.Cond.code ({ cls := "com/example/heartwood/heartwood/store/PropertyType", name := "of", desc := "(I)Lcom/example/heartwood/heartwood/store/PropertyType;" } : Jvm.MethodName) prog_46_method_5_code (5 : Nat) (Option.some (Jvm.ClassFile.FieldType.object "com/example/heartwood/heartwood/store/PropertyType"))).before args0 about1 = true := code_word (m := ⟨6, 1⟩) (meth := k6m1) (c := k6c1) (by decide +kernel) rfl rfl rfl (by decide +kernel)
set_option maxRecDepth 65536 in
theorem w_c2 : (Jvm.Cond.code ({ cls := "com/example/heartwood/heartwood/store/PropertyType", name := "values", desc := "()[Lcom/example/heartwood/heartwood/store/PropertyType;" } : Jvm.MethodName) prog_46_method_1_code (0 : Nat) (Option.some (Jvm.ClassFile.FieldType.array (Jvm.ClassFile.FieldType.object "com/example/heartwood/heartwood/store/PropertyType")))).before args0 about1 = true := code_word (m := ⟨6, 0⟩) (meth := k6m0) (c := k6c0) (by decide +kernel) rfl rfl rfl (by decide +kernel)
set_option maxRecDepth 65536 in
theorem w_c3 : (Jvm.Cond.code ({ cls := "com/example/heartwood/heartwood/store/PropertyTypeOfPinLaw", name := "expected", desc := "(I)Lcom/example/heartwood/heartwood/store/PropertyType;" } : Jvm.MethodName) method_3_code (1 : Nat) (Option.some (Jvm.ClassFile.FieldType.object "com/example/heartwood/heartwood/store/PropertyType"))).before args0 about1 = true := code_word (m := ⟨1, 2⟩) (meth := k1m2) (c := k1c2) (by decide +kernel) rfl rfl rfl (by decide +kernel)
def codes1 : List Jvm.Cond := [Jvm.Cond.code x code maxLocals ret, Jvm.Cond.code ({ cls := "com/example/heartwood/heartwood/store/PropertyType", name := "of", desc := "(I)Lcom/example/heartwood/heartwood/store/PropertyType;" } : Jvm.MethodName) prog_46_method_5_code (5 : Nat) (Option.some (Jvm.ClassFile.FieldType.object "com/example/heartwood/heartwood/store/PropertyType")), Jvm.Cond.code ({ cls := "com/example/heartwood/heartwood/store/PropertyType", name := "values", desc := "()[Lcom/example/heartwood/heartwood/store/PropertyType;" } : Jvm.MethodName) prog_46_method_1_code (0 : Nat) (Option.some (Jvm.ClassFile.FieldType.array (Jvm.ClassFile.FieldType.object "com/example/heartwood/heartwood/store/PropertyType"))), Jvm.Cond.code ({ cls := "com/example/heartwood/heartwood/store/PropertyTypeOfPinLaw", name := "expected", desc := "(I)Lcom/example/heartwood/heartwood/store/PropertyType;" } : Jvm.MethodName) method_3_code (1 : Nat) (Option.some (Jvm.ClassFile.FieldType.object "com/example/heartwood/heartwood/store/PropertyType"))]
set_option maxRecDepth 65536 in
theorem codes_eq : words1.filter isCode = codes1 := rfl
theorem w_codes : ∀ c ∈ words1.filter isCode, c.before args0 about1 = true := by
  rw [codes_eq]
  intro c hc
  simp only [codes1, List.mem_cons, List.not_mem_nil, or_false] at hc
  rcases hc with rfl | rfl | rfl | rfl
  · exact w_c0
  · exact w_c1
  · exact w_c2
  · exact w_c3
set_option maxRecDepth 65536 in
theorem w_t1 : (words1.take 24).all (fun c => isCode c || c.before args0 about1) = true := by decide +kernel
set_option maxRecDepth 65536 in
theorem w_t2 : ((words1.drop 24).take 24).all (fun c => isCode c || c.before args0 about1) = true := by decide +kernel
set_option maxRecDepth 65536 in
theorem w_t3 : ((words1.drop 24).drop 24).all (fun c => isCode c || c.before args0 about1) = true := by decide +kernel
theorem w_tables : (allAtoms (Jvm.Cond.code x code maxLocals ret :: tables_1)).before args0 about1 = true := by
  rw [allAtoms_all]
  show words1.all (fun c => c.before args0 about1) = true
  refine all_split ?_ w_codes
  rw [← List.take_append_drop 24 words1, List.all_append, w_t1, ← List.take_append_drop 24 (words1.drop 24), List.all_append, w_t2, w_t3]
  rfl
set_option maxRecDepth 65536 in
theorem w_case : (Jvm.Cond.and given_1 narrow_1).before args0 about1 = true := by decide +kernel
theorem w_applies : (headSpec (Jvm.Cond.code x code maxLocals ret :: tables_1) room_1).applies x e0.platform about1 = true :=
  (Spec.applies_iff w_frames).mpr ⟨w_running, w_runnable, w_alone, w_named, w_hears, w_ripe, w_room, w_tables⟩
theorem atStart : AtStart classFile x code maxLocals ret World_1 tables_1 room_1 Calls_1 rest_1 Pre_1 launch0 p0 e0 about1 theMethod args0 below0 :=
  ⟨lists_1, trivial, launch0.admits_env _ _ _, launch0.least_env, fairChoices_fair.cas, fairChoices_fair.clock, w_frames, w_args, w_heap, w_applies, trivial, trivial, w_case⟩
end start1
theorem witness_1 : WitnessClaimed_1 := ⟨start1.p0, start1.e0, start1.about1, start1.theMethod, start1.args0, start1.below0, start1.atStart⟩
end Jvm.Pilot.@@N@@
