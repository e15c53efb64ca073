import JvmDerived
import JvmDerived.Pilot.@@N@@Statement
import JvmDerived.Pilot.@@N@@Code
set_option linter.unusedVariables false
set_option linter.unusedSimpArgs false
namespace Jvm.RoadKit
open Sem ClassFile Op Lib Jvm.Stand Jvm.Free Jvm.LawKit
section New
variable {p : Program} {l : Launch} {e : Env} {R : Room} {s : State} {m : MethodId} {args : Array Value} {below : List Frame} {meth : Method} {c : Code} {T : State} {locs : List Loc} {cells slots : Nat}
theorem retI (X : Stand p l e R s m args below meth c T locs cells slots) (hx : p.tables.exec = Jvm.exec) {pc : Nat} {Ls : Array Slot} {z : Int32} {rest : List Value} (hret : meth.sig.returnType = some .int) (hd : decode c.code pc = .ok (.ireturn, 1)) {fs : List Frame}
    (hl : ∀ (f : JFrame) (acts : List Action), f.method = m → f.locked = none → f.entered = [] → (doReturn e (T.setTop f) acts (some (.int z))).1 = T.setFrames fs) : Steps p.tables e below (T.setTop (mkF m pc Ls (.int z :: rest))) (T.setFrames fs) := by
  have hm' : T.vm.method? m = some meth := X.method'
  have hn : narrow .int (.int z) = .int z := rfl
  show Steps p.tables e below (T.setTop { method := m, pc := pc, locals := Ls, stack := _ :: rest, locked := none }) _
  jvm_step X.here [X.here.top, hx, hd, hm', hret, hn]
  first | (intro acts; rw [hl _ acts rfl rfl rfl]) | rw [hl _ _ rfl rfl rfl]
  exact Steps.refl _
end New
end Jvm.RoadKit
namespace Jvm.Pilot.@@N@@
open Jvm Jvm.ClassFile Sem Op Lib Jvm.Free Jvm.Stand Jvm.LawKit Jvm.RoadKit Bundle Jvm.Pilot.@@N@@.Jvm.D
theorem own_side0 {h0 : Heap} {ws : List Addr} : ∀ x ∈ ([] : List Addr), x ∈ ws ∨ h0.size ≤ x := fun _ q => nomatch q
theorem own_side1 {h0 : Heap} {ws : List Addr} {a : Addr} (h : a ∈ ws ∨ h0.size ≤ a) : ∀ x ∈ [a], x ∈ ws ∨ h0.size ≤ x := fun x q => by
  cases List.mem_singleton.mp q; exact h
theorem own_side2 {h0 : Heap} {ws : List Addr} {a b : Addr} (h : a ∈ ws ∨ h0.size ≤ a) (h' : b ∈ ws ∨ h0.size ≤ b) : ∀ x ∈ [a, b], x ∈ ws ∨ h0.size ≤ x := fun x q => by
  rcases List.mem_cons.mp q with rfl | q
  · exact h
  · exact own_side1 h' x q
theorem own_side3 {h0 : Heap} {ws : List Addr} {a b d : Addr} (h : a ∈ ws ∨ h0.size ≤ a) (h' : b ∈ ws ∨ h0.size ≤ b) (h'' : d ∈ ws ∨ h0.size ≤ d) : ∀ x ∈ [a, b, d], x ∈ ws ∨ h0.size ≤ x := fun x q => by
  rcases List.mem_cons.mp q with rfl | q
  · exact h
  · exact own_side2 h' h'' x q
theorem own_notin1 {x a : Addr} (h : x ≠ a) : x ∉ [a] := fun q => h (List.mem_singleton.mp q)
theorem own_notin2 {x a b : Addr} (h : x ≠ a) (h' : x ≠ b) : x ∉ [a, b] := fun q => by
  rcases List.mem_cons.mp q with q | q
  · exact h q
  · exact own_notin1 h' q
theorem own_notin3 {x a b d : Addr} (h : x ≠ a) (h' : x ≠ b) (h'' : x ≠ d) : x ∉ [a, b, d] := fun q => by
  rcases List.mem_cons.mp q with q | q
  · exact h q
  · exact own_notin2 h' h'' q
theorem own_eqInt {a : Term} {k : Int32} {args : Array Value} {first s : State} {o : Option Outcome} {idx : List Nat} (h : (Jvm.Cond.eq a (Term.int k)).value args first o s idx = some true) : a.eval args first o idx s = some (.int k) := by
  simp only [Cond.value, Term.eval] at h
  cases ht : a.eval args first o idx s with
  | none => simp [ht] at h
  | some x => cases x <;> simp [ht] at h ⊢; exact h
theorem own_enum {Z : State} {args : Array Value} {C f d : String} {k : Int32} (hE : (Jvm.Cond.exactly (Term.static C f d) C).value args Z none Z [] = some true) (hO : (Jvm.Cond.eq (Term.field (Term.static C f d) "java/lang/Enum" "ordinal" "I") (Term.int k)).value args Z none Z [] = some true)
    (hi : (Jvm.Cond.initialized C).before args Z = true) (hl : (Jvm.Cond.laysStatic C f d).before args Z = true) : ∃ a, Sta Z Z.heap C f d (.ref a) ∧ Exa Z Z.heap a C ∧ Fld Z Z.heap a "java/lang/Enum" "ordinal" "I" (.int k) := by
  obtain ⟨a, ev⟩ := exa_v hE
  exact ⟨a, Sta.start ev (Or.inr ⟨hi, hl⟩), Exa.start ev hE, Fld.start ((fld_at ev).symm.trans (own_eqInt hO))⟩
theorem own_sta_keep {Z : State} {h h' : Heap} {C n d : String} {v : Value} (F : Sta Z h C n d v) (K : Keep h h' []) : Sta Z h' C n d v := by
  obtain ⟨cf, i, k, f, st, cell, h1, h2, h3, h4, h5, r⟩ := F
  exact ⟨cf, i, k, f, st, cell, h1, h2, h3, h4, K.2.1 _ _ h5 (fun q => nomatch q), r⟩
theorem own_eqRef {a b : Term} {y : Addr} {args : Array Value} {first s : State} {o : Option Outcome} {idx : List Nat} (h : (Jvm.Cond.eq a b).value args first o s idx = some true) (hb : b.eval args first o idx s = some (.ref y)) : a.eval args first o idx s = some (.ref y) := by
  simp only [Cond.value, hb] at h
  cases ht : a.eval args first o idx s with
  | none => simp [ht] at h
  | some x => cases x <;> simp [ht] at h ⊢; exact h
theorem own_arr {Z : State} {args : Array Value} {t : Term} {ty : FieldType} {n : Int32} (hA : (Jvm.Cond.arrayOf t ty).value args Z none Z [] = some true) (hL : (Jvm.Cond.eq (Term.length t) (Term.int n)).value args Z none Z [] = some true) :
    ∃ a cl, t.eval args Z none [] Z = some (.ref a) ∧ Arr Z Z.heap a cl ty ∧ cl.slots.size < 2 ^ 31 ∧ cl.slots.size.toInt32 = n := by
  obtain ⟨a, ev⟩ := arr_v hA
  obtain ⟨cl, A⟩ := Arr.start ev hA
  obtain ⟨b, cell, e1, e2, e3⟩ := Term.length_spec (own_eqInt hL)
  cases ev.symm.trans e1
  cases (Arr.fin (Vm.Alike.refl _) A).symm.trans e2
  have e4 : cl.slots.size < 2 ^ 31 := by
    have h := own_eqInt hL
    simp only [Term.eval, ev, Option.bind_eq_bind, Option.bind_some] at h
    by_cases hq : cl.slots.size < 2 ^ 31
    · exact hq
    · simp [e2, hq] at h
  exact ⟨a, cl, ev, A, e4, (Value.int.inj e3).symm⟩
theorem own_elem {Z : State} {args : Array Value} {t u : Term} {ty : FieldType} {a y : Addr} {cl : Cell} {j : Int32} (ev : t.eval args Z none [] Z = some (.ref a)) (A : Arr Z Z.heap a cl ty) (hE : (Jvm.Cond.eq (Term.elem t (Term.int j)) u).value args Z none Z [] = some true) (hu : u.eval args Z none [] Z = some (.ref y)) (hj : ¬ j < 0) :
    cl.slots[j.toNatClampNeg]? = some (.ref y) :=
  (elem_f ev (Term.int_eval j) (Arr.fin (Vm.Alike.refl _) A) hj).symm.trans (own_eqRef hE hu)
def numV (k : Int32) (u0 u1 : Addr) : Value := if (0 : Int32) = k then .ref u0 else if (1 : Int32) = k then .ref u1 else .null
theorem d3_0 : decode prog_18_method_1_code 0 = .ok (.getstatic 10, 3) := by decide +kernel
theorem d3_3 : decode prog_18_method_1_code 3 = .ok (.invokevirtual 14, 3) := by decide +kernel
theorem d3_6 : decode prog_18_method_1_code 6 = .ok (.checkcast 15, 3) := by decide +kernel
theorem d3_9 : decode prog_18_method_1_code 9 = .ok (.areturn, 1) := by decide +kernel
theorem pn_0 : plainName "com/example/bitsieve/bitsieve/filter/FilterKind" = true := by first | (simp [plainName, overriddenIn]; done) | decide +kernel
theorem ef_3 (m : MethodId)  : entryFrame m #[] 0 = mkF m 0 #[] [] := by first | (simp [entryFrame, mkF, argsToLocals, Value.category]; done) | rfl
def Q3 (Z : State) (kV : ClassId) (u0 u1 : Addr) (h0 : Heap) (n0 : Nat) (v : Option Value) (h : Heap) (L : List Loc) : Prop := ∃ b, v = some (.ref b) ∧ Fr n0 L ∧ Keep h0 h [] ∧ h0.size ≤ b ∧ Arv Z h b kV (.object "com/example/bitsieve/bitsieve/filter/FilterKind") (2 : Int32) [(.ref u0), (.ref u1)] .null
set_option maxRecDepth 65536 in
set_option maxHeartbeats 40000000 in
theorem rm3 (l : Launch) (Z : State) (a0 : Array Value) (hw : ∀ d ∈ tables_1, d.before a0 Z = true) (ws : List Jvm.Cond) (bV : Addr) (kV : ClassId) (u0 u1 : Addr) (h0 : Heap) (n0 : Nat) (Z0 : n0 ≤ h0.size) (SV : Sta Z h0 "com/example/bitsieve/bitsieve/filter/FilterKind" "$VALUES" "[Lcom/example/bitsieve/bitsieve/filter/FilterKind;" (.ref bV)) (EV : Exa Z h0 bV "[Lcom/example/bitsieve/bitsieve/filter/FilterKind;") (AV : Arv Z h0 bV kV (.object "com/example/bitsieve/bitsieve/filter/FilterKind") (2 : Int32) [(.ref u0), (.ref u1)] .null) :
    MetFree l (⟨"com/example/bitsieve/bitsieve/filter/FilterKind", "values", "()[Lcom/example/bitsieve/bitsieve/filter/FilterKind;"⟩ : MethodName) (head1 (Jvm.Cond.code (⟨"com/example/bitsieve/bitsieve/filter/FilterKind", "values", "()[Lcom/example/bitsieve/bitsieve/filter/FilterKind;"⟩ : MethodName) prog_18_method_1_code 0 (some (.array (.object "com/example/bitsieve/bitsieve/filter/FilterKind"))) :: ws) ({ frames := 1, cells := 1, slots := 2, locals := 14 } : Room)) (fun a U => a = #[] ∧ Z.Warmed39 U.vm ∧ U.heap = h0) (fun _ _ _ _ _ => True) (fun _ U o U' => ∃ v L, o = .returned v ∧ Q3 Z kV u0 u1 h0 n0 v U'.heap L ∧ FrameEnd U o U' L ({ frames := 1, cells := 1, slots := 2, locals := 14 } : Room).cells ({ frames := 1, cells := 1, slots := 2, locals := 14 } : Room).slots) := by
  refine MetFree.of_bodySF (plainFor_of_name pn_0) hisR ?_
  intro p e s m args below meth c s₁ Bd hml0 hP hK
  obtain ⟨rfl, hZ, hh⟩ := hP
  have hx := Bd.exec
  have hby := Bd.bytes
  have hml : c.maxLocals = 0 := hml0
  have hown : s.vm.findClass "com/example/bitsieve/bitsieve/filter/FilterKind" = some m.cls := findClass_of_methodNamed Bd.named
  have hnm := (name_of_methodNamed Bd.named Bd.method).1
  have X0 : Stand p l e ({ frames := 1, cells := 1, slots := 2, locals := 14 } : Room) s m #[] below meth c s₁ [] 0 0 := Stand.of_body Bd
  have e0 : s₁.heap = h0 := by rw [← hh, Bd.state]; rfl
  have N0 := Fr.nil n0
  have pre0 : ∀ t, Steps p.tables e below (s₁.setTop (mkF m 0 #[] [])) t → Steps p.tables e below (s₁.setTop (entryFrame m #[] 0)) t := fun t k => castTop (ef_3 m ) k
  obtain ⟨T1, X1, e1, st1⟩ := getS2 X0 hx hZ hown (host := "") (Or.inl (hw _ (List.mem_of_getElem? (i := 11) rfl))) Via.refl e0 SV (g := (mkF m 0 #[] [])) rfl (hb hby d3_0)
  obtain ⟨T2, h2, X2, e2, E2, A2, Ex2, st2⟩ := cloneH X1 hx hZ hown (hw _ (List.mem_of_getElem? (i := 13) rfl)) (hw _ (List.mem_of_getElem? (i := 14) rfl)) (hw _ (List.mem_of_getElem? (i := 18) rfl)) (hw _ (List.mem_of_getElem? (i := 16) rfl)) (hw _ (List.mem_of_getElem? (i := 17) rfl)) (hw _ (List.mem_of_getElem? (i := 19) rfl)) e1 (Arv.arh AV) EV (g := (mkF m 3 #[] [(.ref bV)])) rfl (by rw [hml]; rfl) rfl (hb hby d3_3) (by decide) (W := 0) (cap := 2) (by show 2 * 0 + _ ≤ _; exact Nat.le_of_eq rfl) (by decide) (by decide) (by decide) (by decide)
  obtain ⟨b2, g2⟩ : ∃ z, z = h0.size := ⟨_, rfl⟩
  rw [← g2] at A2 Ex2 st2
  have g_b2 : n0 ≤ b2 := Nat.le_trans Z0 (Nat.le_of_eq g2.symm)
  have sz_b2 : h0.size ≤ b2 := Nat.le_trans (Keep.refl h0 []).1 (Nat.le_of_eq g2.symm)
  have ne_bV_b2 : bV ≠ b2 := Nat.ne_of_lt (Nat.lt_of_lt_of_le EV.lt (Nat.le_of_eq g2.symm))
  have K2 : Keep h0 h2 [] := Keep.ext (Keep.refl h0 []) E2
  have Z2 : n0 ≤ h2.size := Nat.le_trans Z0 K2.1
  have V_b2 : Arv Z h2 b2 kV (.object "com/example/bitsieve/bitsieve/filter/FilterKind") (2 : Int32) [(.ref u0), (.ref u1)] .null := A2
  obtain ⟨T3, X3, e3, st3⟩ := castY X2 hx hZ hown (hw _ (List.mem_of_getElem? (i := 23) rfl)) e2 (Ins.self Ex2) (g := (mkF m 6 #[] [(.ref b2)])) rfl rfl (hb hby d3_6)
  obtain ⟨fs, hr, hrun, hended, hW, hsame⟩ := X3.leave (v := some (.ref b2)) (fun h => by rw [Bd.returns] at h; cases h)
  refine ⟨_, _, pre0 _ ?_, hrun, hended, _, _, rfl, ?_, ⟨_, rfl⟩, hW, hsame.mono (by decide) (by decide)⟩
  · show Steps p.tables e below (s₁.setTop (mkF m 0 #[] [])) _
    refine st1 _ ?_
    show Steps p.tables e below (T1.setTop (mkF m 3 #[] [(.ref bV)])) _
    refine st2 _ ?_
    show Steps p.tables e below (T2.setTop (mkF m 6 #[] [(.ref b2)])) _
    refine st3 _ ?_
    show Steps p.tables e below (T3.setTop (mkF m 9 #[] [(.ref b2)])) _
    jvm_step X3.here [X3.here.top, hx, (hb hby d3_9), X3.method', Bd.returns, Value.isRef, FieldType.isReference]
    first | (intro acts; rw [hr _ acts rfl rfl rfl]) | rw [hr _ _ rfl rfl rfl]
    exact Steps.refl _
  · show Q3 Z kV u0 u1 h0 n0 _ T3.heap _
    rw [e3]
    exact ⟨b2, rfl, N0, K2, sz_b2, V_b2⟩
theorem d2_0 : decode prog_18_method_4_code 0 = .ok (.aconst_null, 1) := by decide +kernel
theorem d2_1 : decode prog_18_method_4_code 1 = .ok (.astore_n 1, 1) := by decide +kernel
theorem d2_2 : decode prog_18_method_4_code 2 = .ok (.invokestatic 43, 3) := by decide +kernel
theorem d2_5 : decode prog_18_method_4_code 5 = .ok (.astore_n 2, 1) := by decide +kernel
theorem d2_6 : decode prog_18_method_4_code 6 = .ok (.aload_n 2, 1) := by decide +kernel
theorem d2_7 : decode prog_18_method_4_code 7 = .ok (.arraylength, 1) := by decide +kernel
theorem d2_8 : decode prog_18_method_4_code 8 = .ok (.istore_n 3, 1) := by decide +kernel
theorem d2_9 : decode prog_18_method_4_code 9 = .ok (.iconst 0, 1) := by decide +kernel
theorem d2_10 : decode prog_18_method_4_code 10 = .ok (.istore 4, 2) := by decide +kernel
theorem d2_12 : decode prog_18_method_4_code 12 = .ok (.iload 4, 2) := by decide +kernel
theorem d2_14 : decode prog_18_method_4_code 14 = .ok (.iload_n 3, 1) := by decide +kernel
theorem d2_15 : decode prog_18_method_4_code 15 = .ok (.if_icmp .ge 27, 3) := by decide +kernel
theorem d2_18 : decode prog_18_method_4_code 18 = .ok (.aload_n 2, 1) := by decide +kernel
theorem d2_19 : decode prog_18_method_4_code 19 = .ok (.iload 4, 2) := by decide +kernel
theorem d2_21 : decode prog_18_method_4_code 21 = .ok (.aaload, 1) := by decide +kernel
theorem d2_22 : decode prog_18_method_4_code 22 = .ok (.astore 5, 2) := by decide +kernel
theorem d2_24 : decode prog_18_method_4_code 24 = .ok (.aload 5, 2) := by decide +kernel
theorem d2_26 : decode prog_18_method_4_code 26 = .ok (.getfield 29, 3) := by decide +kernel
theorem d2_29 : decode prog_18_method_4_code 29 = .ok (.iload_n 0, 1) := by decide +kernel
theorem d2_30 : decode prog_18_method_4_code 30 = .ok (.if_icmp .ne 6, 3) := by decide +kernel
theorem d2_33 : decode prog_18_method_4_code 33 = .ok (.aload 5, 2) := by decide +kernel
theorem d2_35 : decode prog_18_method_4_code 35 = .ok (.astore_n 1, 1) := by decide +kernel
theorem d2_36 : decode prog_18_method_4_code 36 = .ok (.iinc 4 1, 3) := by decide +kernel
theorem d2_39 : decode prog_18_method_4_code 39 = .ok (.goto (-27), 3) := by decide +kernel
theorem d2_42 : decode prog_18_method_4_code 42 = .ok (.aload_n 1, 1) := by decide +kernel
theorem d2_43 : decode prog_18_method_4_code 43 = .ok (.areturn, 1) := by decide +kernel
theorem pd_0 : parseMethodDescriptor "()[Lcom/example/bitsieve/bitsieve/filter/FilterKind;" = some ⟨[], some (.array (.object "com/example/bitsieve/bitsieve/filter/FilterKind"))⟩ := by decide +kernel
theorem ef_2 (m : MethodId) (p0 : Int32) : entryFrame m #[(.int p0)] 6 = mkF m 0 #[.val (.int p0), .unset, .unset, .unset, .unset, .unset] [] := by first | (simp [entryFrame, mkF, argsToLocals, Value.category]; done) | rfl
def Q2 (p0 : Int32) (u0 u1 : Addr) (h0 : Heap) (n0 : Nat) (v : Option Value) (h : Heap) (L : List Loc) : Prop := v = some (numV p0 u0 u1) ∧ Fr n0 L ∧ Keep h0 h []
set_option maxRecDepth 65536 in
set_option maxHeartbeats 40000000 in
theorem rm2 (l : Launch) (Z : State) (a0 : Array Value) (hw : ∀ d ∈ tables_1, d.before a0 Z = true) (ws : List Jvm.Cond) (p0 : Int32) (bV : Addr) (kV : ClassId) (u0 u1 : Addr) (h0 : Heap) (n0 : Nat) (Z0 : n0 ≤ h0.size) (S0 : Sta Z h0 "com/example/bitsieve/bitsieve/filter/FilterKind" "BLOOM" "Lcom/example/bitsieve/bitsieve/filter/FilterKind;" (.ref u0)) (E0 : Exa Z h0 u0 "com/example/bitsieve/bitsieve/filter/FilterKind") (F0 : Fld Z h0 u0 "com/example/bitsieve/bitsieve/filter/FilterKind" "number" "I" (.int (0 : Int32))) (S1 : Sta Z h0 "com/example/bitsieve/bitsieve/filter/FilterKind" "COUNTING" "Lcom/example/bitsieve/bitsieve/filter/FilterKind;" (.ref u1)) (E1 : Exa Z h0 u1 "com/example/bitsieve/bitsieve/filter/FilterKind") (F1 : Fld Z h0 u1 "com/example/bitsieve/bitsieve/filter/FilterKind" "number" "I" (.int (1 : Int32))) (SV : Sta Z h0 "com/example/bitsieve/bitsieve/filter/FilterKind" "$VALUES" "[Lcom/example/bitsieve/bitsieve/filter/FilterKind;" (.ref bV)) (EV : Exa Z h0 bV "[Lcom/example/bitsieve/bitsieve/filter/FilterKind;") (AV : Arv Z h0 bV kV (.object "com/example/bitsieve/bitsieve/filter/FilterKind") (2 : Int32) [(.ref u0), (.ref u1)] .null) :
    MetFree l (⟨"com/example/bitsieve/bitsieve/filter/FilterKind", "numbered", "(I)Lcom/example/bitsieve/bitsieve/filter/FilterKind;"⟩ : MethodName) (head1 (Jvm.Cond.code (⟨"com/example/bitsieve/bitsieve/filter/FilterKind", "numbered", "(I)Lcom/example/bitsieve/bitsieve/filter/FilterKind;"⟩ : MethodName) prog_18_method_4_code 6 (some (.object "com/example/bitsieve/bitsieve/filter/FilterKind")) :: ws) ({ frames := 2, cells := 1, slots := 2, locals := 25 } : Room)) (fun a U => a = #[(.int p0)] ∧ Z.Warmed39 U.vm ∧ U.heap = h0) (fun _ _ _ _ _ => True) (fun _ U o U' => ∃ v L, o = .returned v ∧ Q2 p0 u0 u1 h0 n0 v U'.heap L ∧ FrameEnd U o U' L ({ frames := 2, cells := 1, slots := 2, locals := 25 } : Room).cells ({ frames := 2, cells := 1, slots := 2, locals := 25 } : Room).slots) := by
  refine MetFree.of_bodySF (plainFor_of_name pn_0) hisR ?_
  intro p e s m args below meth c s₁ Bd hml0 hP hK
  obtain ⟨rfl, hZ, hh⟩ := hP
  have hx := Bd.exec
  have hby := Bd.bytes
  have hml : c.maxLocals = 6 := hml0
  have hown : s.vm.findClass "com/example/bitsieve/bitsieve/filter/FilterKind" = some m.cls := findClass_of_methodNamed Bd.named
  have hnm := (name_of_methodNamed Bd.named Bd.method).1
  have X0 : Stand p l e ({ frames := 2, cells := 1, slots := 2, locals := 25 } : Room) s m #[(.int p0)] below meth c s₁ [] 0 0 := Stand.of_body Bd
  have e0 : s₁.heap = h0 := by rw [← hh, Bd.state]; rfl
  have N0 := Fr.nil n0
  have pre0 : ∀ t, Steps p.tables e below (s₁.setTop (mkF m 0 #[.val (.int p0), .unset, .unset, .unset, .unset, .unset] [])) t → Steps p.tables e below (s₁.setTop (entryFrame m #[(.int p0)] 6)) t := fun t k => castTop (ef_2 m p0) k
  obtain ⟨_, _, ⟨T1, L1, k1, n1⟩, -, X1, ⟨Lc1, hQ1, l1, y1, z1⟩, st1⟩ := Jvm.LawKit.callS X0 hx (y := (⟨"com/example/bitsieve/bitsieve/filter/FilterKind", "values", "()[Lcom/example/bitsieve/bitsieve/filter/FilterKind;"⟩ : MethodName)) hown (mvT hZ (hw _ (List.mem_of_getElem? (i := 8) rfl))) (mvT hZ (hw _ (List.mem_of_getElem? (i := 9) rfl))) (mvT hZ (hw _ (List.mem_of_getElem? (i := 6) rfl))) (mvT hZ (hw _ (List.mem_of_getElem? (i := 10) rfl))) (by decide) (backOf (W := 0) (rm3 l Z a0 hw [] bV kV u0 u1 h0 n0 Z0 SV EV AV) hZ (hw _ (List.mem_of_getElem? (i := 10) rfl)) (hw _ (List.mem_of_getElem? (i := 6) rfl)) (by decide) (by decide)) (g := (mkF m 2 #[.val (.int p0), .val .null, .unset, .unset, .unset, .unset] [])) rfl (by rw [hml]; rfl) (argsL := []) (rest := []) (lenOf pd_0 rfl) rfl (by show 2 * 0 + _ ≤ _; exact Nat.le_of_eq rfl) (hb hby d2_2) (fun _ _ => ⟨rfl, e0, (by decide : 0 + 1 ≤ _), (by decide : 0 + 2 ≤ _)⟩)
  dsimp only [Pt.U, Pt.locs, Pt.cells, Pt.slots] at X1 l1 y1 z1 st1 hQ1
  subst l1 y1 z1
  obtain ⟨bv1, rfl, N1q, K1, ge1, V1⟩ := hQ1
  have KK1 : Keep h0 T1.heap [] := Keep.trans (Keep.refl h0 []) K1 own_side0
  have Z1 : n0 ≤ T1.heap.size := Nat.le_trans Z0 KK1.1
  have N1 := Fr.app N0 N1q
  obtain ⟨cl2, Ar2, -, S2, Nn2, -, -⟩ := id V1
  obtain ⟨cl3, Ar3, -, S3, Nn3, Hh3, -⟩ := id V1
  have hin3 : ¬ ((0 : Int32) < 0 ∨ cl3.slots.size ≤ ((0 : Int32)).toNatClampNeg) := inb_of S3 ⟨by decide, by decide⟩
  have hat3 : cl3.slots[((0 : Int32)).toNatClampNeg]? = some (.ref u0) := Hh3.at hin3 rfl
  have f4 := (F0.keep K1 (by simp))
  obtain ⟨T5, X5, e5, st5⟩ := getF X1 hx hZ hown (host := "") (Or.inl (hw _ (List.mem_of_getElem? (i := 25) rfl))) Via.refl rfl f4 (g := (mkF m 26 #[.val (.int p0), .val .null, .val (.ref bv1), .val (.int (2 : Int32)), .val (.int (0 : Int32)), .val (.ref u0)] [(.ref u0)])) rfl rfl (hb hby d2_26)
  have pre6 : ∀ t, Steps p.tables e below (T5.setTop (mkF m 30 #[.val (.int p0), .val .null, .val (.ref bv1), .val (.int (2 : Int32)), .val (.int (0 : Int32)), .val (.ref u0)] [(.int p0), (.int (0 : Int32))])) t → Steps p.tables e below (s₁.setTop (entryFrame m #[(.int p0)] 6)) t := fun t kt => pre0 t (by
      show Steps p.tables e below (s₁.setTop (mkF m 0 #[.val (.int p0), .unset, .unset, .unset, .unset, .unset] [])) _
      refine XS.aconstNull X0.here hx rfl (hb hby d2_0) ?_
      show Steps p.tables e below (s₁.setTop (mkF m 1 #[.val (.int p0), .unset, .unset, .unset, .unset, .unset] [.null])) _
      refine XS.astoreN X0.here hx rfl (hb hby d2_1) rfl rfl (l' := #[.val (.int p0), .val .null, .unset, .unset, .unset, .unset]) rfl ?_
      show Steps p.tables e below (s₁.setTop (mkF m 2 #[.val (.int p0), .val .null, .unset, .unset, .unset, .unset] [])) _
      refine st1 _ ?_
      show Steps p.tables e below (T1.setTop (mkF m 5 #[.val (.int p0), .val .null, .unset, .unset, .unset, .unset] [(.ref bv1)])) _
      refine XS.astoreN X1.here hx rfl (hb hby d2_5) rfl rfl (l' := #[.val (.int p0), .val .null, .val (.ref bv1), .unset, .unset, .unset]) rfl ?_
      show Steps p.tables e below (T1.setTop (mkF m 6 #[.val (.int p0), .val .null, .val (.ref bv1), .unset, .unset, .unset] [])) _
      refine XS.aloadN X1.here hx rfl (hb hby d2_6) rfl rfl ?_
      show Steps p.tables e below (T1.setTop (mkF m 7 #[.val (.int p0), .val .null, .val (.ref bv1), .unset, .unset, .unset] [(.ref bv1)])) _
      refine X1.arraylength hx Ar2.1 (State.isArrayOf_alike hZ.alike Ar2.2.1) (g := (mkF m 7 #[.val (.int p0), .val .null, .val (.ref bv1), .unset, .unset, .unset] [(.ref bv1)])) rfl rfl (hb hby d2_7) _ ?_
      rw [len_of S2 Nn2]
      show Steps p.tables e below (T1.setTop (mkF m 8 #[.val (.int p0), .val .null, .val (.ref bv1), .unset, .unset, .unset] [(.int (2 : Int32))])) _
      refine XS.istoreN X1.here hx rfl (hb hby d2_8) rfl (l' := #[.val (.int p0), .val .null, .val (.ref bv1), .val (.int (2 : Int32)), .unset, .unset]) rfl ?_
      show Steps p.tables e below (T1.setTop (mkF m 9 #[.val (.int p0), .val .null, .val (.ref bv1), .val (.int (2 : Int32)), .unset, .unset] [])) _
      refine XS.iconst X1.here hx rfl (hb hby d2_9) ?_
      show Steps p.tables e below (T1.setTop (mkF m 10 #[.val (.int p0), .val .null, .val (.ref bv1), .val (.int (2 : Int32)), .unset, .unset] [(.int (0 : Int32))])) _
      refine XS.istore X1.here hx rfl (hb hby d2_10) rfl (l' := #[.val (.int p0), .val .null, .val (.ref bv1), .val (.int (2 : Int32)), .val (.int (0 : Int32)), .unset]) rfl ?_
      show Steps p.tables e below (T1.setTop (mkF m 12 #[.val (.int p0), .val .null, .val (.ref bv1), .val (.int (2 : Int32)), .val (.int (0 : Int32)), .unset] [])) _
      refine XS.iload X1.here hx rfl (hb hby d2_12) rfl ?_
      show Steps p.tables e below (T1.setTop (mkF m 14 #[.val (.int p0), .val .null, .val (.ref bv1), .val (.int (2 : Int32)), .val (.int (0 : Int32)), .unset] [(.int (0 : Int32))])) _
      refine XS.iloadN X1.here hx rfl (hb hby d2_14) rfl ?_
      show Steps p.tables e below (T1.setTop (mkF m 15 #[.val (.int p0), .val .null, .val (.ref bv1), .val (.int (2 : Int32)), .val (.int (0 : Int32)), .unset] [(.int (2 : Int32)), (.int (0 : Int32))])) _
      refine XS.icmpNo X1.here hx rfl (hb hby d2_15) rfl (tlt (show (0 : Int32) < (2 : Int32) from (by decide))).2.1 ?_
      show Steps p.tables e below (T1.setTop (mkF m 18 #[.val (.int p0), .val .null, .val (.ref bv1), .val (.int (2 : Int32)), .val (.int (0 : Int32)), .unset] [])) _
      refine XS.aloadN X1.here hx rfl (hb hby d2_18) rfl rfl ?_
      show Steps p.tables e below (T1.setTop (mkF m 19 #[.val (.int p0), .val .null, .val (.ref bv1), .val (.int (2 : Int32)), .val (.int (0 : Int32)), .unset] [(.ref bv1)])) _
      refine XS.iload X1.here hx rfl (hb hby d2_19) rfl ?_
      show Steps p.tables e below (T1.setTop (mkF m 21 #[.val (.int p0), .val .null, .val (.ref bv1), .val (.int (2 : Int32)), .val (.int (0 : Int32)), .unset] [(.int (0 : Int32)), (.ref bv1)])) _
      refine X1.aaload hx (j := (0 : Int32)) (v := (.ref u0)) Ar3.1 (State.isArrayOf_alike hZ.alike Ar3.2.1) rfl Ar3.2.2 hin3 hat3 (g := (mkF m 21 #[.val (.int p0), .val .null, .val (.ref bv1), .val (.int (2 : Int32)), .val (.int (0 : Int32)), .unset] [(.int (0 : Int32)), (.ref bv1)])) rfl rfl (hb hby d2_21) _ ?_
      show Steps p.tables e below (T1.setTop (mkF m 22 #[.val (.int p0), .val .null, .val (.ref bv1), .val (.int (2 : Int32)), .val (.int (0 : Int32)), .unset] [(.ref u0)])) _
      refine XS.astore X1.here hx rfl (hb hby d2_22) rfl rfl (l' := #[.val (.int p0), .val .null, .val (.ref bv1), .val (.int (2 : Int32)), .val (.int (0 : Int32)), .val (.ref u0)]) rfl ?_
      show Steps p.tables e below (T1.setTop (mkF m 24 #[.val (.int p0), .val .null, .val (.ref bv1), .val (.int (2 : Int32)), .val (.int (0 : Int32)), .val (.ref u0)] [])) _
      refine XS.aload X1.here hx rfl (hb hby d2_24) rfl rfl ?_
      show Steps p.tables e below (T1.setTop (mkF m 26 #[.val (.int p0), .val .null, .val (.ref bv1), .val (.int (2 : Int32)), .val (.int (0 : Int32)), .val (.ref u0)] [(.ref u0)])) _
      refine st5 _ ?_
      show Steps p.tables e below (T5.setTop (mkF m 29 #[.val (.int p0), .val .null, .val (.ref bv1), .val (.int (2 : Int32)), .val (.int (0 : Int32)), .val (.ref u0)] [(.int (0 : Int32))])) _
      refine XS.iloadN X5.here hx rfl (hb hby d2_29) rfl ?_
      exact kt)
  by_cases hc30 : (0 : Int32) = p0
  · obtain ⟨cl7, Ar7, -, S7, Nn7, Hh7, -⟩ := id V1
    have hin7 : ¬ ((1 : Int32) < 0 ∨ cl7.slots.size ≤ ((1 : Int32)).toNatClampNeg) := inb_of S7 ⟨by decide, by decide⟩
    have hat7 : cl7.slots[((1 : Int32)).toNatClampNeg]? = some (.ref u1) := Hh7.at hin7 rfl
    have f8 := (F1.keep K1 (by simp))
    obtain ⟨T9, X9, e9, st9⟩ := getF X5 hx hZ hown (host := "") (Or.inl (hw _ (List.mem_of_getElem? (i := 25) rfl))) Via.refl e5 f8 (g := (mkF m 26 #[.val (.int p0), .val (.ref u0), .val (.ref bv1), .val (.int (2 : Int32)), .val (.int (1 : Int32)), .val (.ref u1)] [(.ref u1)])) rfl rfl (hb hby d2_26)
    have pre10 : ∀ t, Steps p.tables e below (T9.setTop (mkF m 30 #[.val (.int p0), .val (.ref u0), .val (.ref bv1), .val (.int (2 : Int32)), .val (.int (1 : Int32)), .val (.ref u1)] [(.int p0), (.int (1 : Int32))])) t → Steps p.tables e below (s₁.setTop (entryFrame m #[(.int p0)] 6)) t := fun t kt => pre6 t (by
        show Steps p.tables e below (T5.setTop (mkF m 30 #[.val (.int p0), .val .null, .val (.ref bv1), .val (.int (2 : Int32)), .val (.int (0 : Int32)), .val (.ref u0)] [(.int p0), (.int (0 : Int32))])) _
        refine XS.icmpNo X5.here hx rfl (hb hby d2_30) rfl (teq (show (0 : Int32) = p0 from hc30)).2 ?_
        show Steps p.tables e below (T5.setTop (mkF m 33 #[.val (.int p0), .val .null, .val (.ref bv1), .val (.int (2 : Int32)), .val (.int (0 : Int32)), .val (.ref u0)] [])) _
        refine XS.aload X5.here hx rfl (hb hby d2_33) rfl rfl ?_
        show Steps p.tables e below (T5.setTop (mkF m 35 #[.val (.int p0), .val .null, .val (.ref bv1), .val (.int (2 : Int32)), .val (.int (0 : Int32)), .val (.ref u0)] [(.ref u0)])) _
        refine XS.astoreN X5.here hx rfl (hb hby d2_35) rfl rfl (l' := #[.val (.int p0), .val (.ref u0), .val (.ref bv1), .val (.int (2 : Int32)), .val (.int (0 : Int32)), .val (.ref u0)]) rfl ?_
        show Steps p.tables e below (T5.setTop (mkF m 36 #[.val (.int p0), .val (.ref u0), .val (.ref bv1), .val (.int (2 : Int32)), .val (.int (0 : Int32)), .val (.ref u0)] [])) _
        refine XS.iinc X5.here hx rfl (hb hby d2_36) rfl (l' := #[.val (.int p0), .val (.ref u0), .val (.ref bv1), .val (.int (2 : Int32)), .val (.int (1 : Int32)), .val (.ref u0)]) rfl ?_
        show Steps p.tables e below (T5.setTop (mkF m 39 #[.val (.int p0), .val (.ref u0), .val (.ref bv1), .val (.int (2 : Int32)), .val (.int (1 : Int32)), .val (.ref u0)] [])) _
        refine XS.goto X5.here hx rfl (pc0 := 39) (pc' := 12) rfl (hb hby d2_39) (by decide) (by decide) ?_
        show Steps p.tables e below (T5.setTop (mkF m 12 #[.val (.int p0), .val (.ref u0), .val (.ref bv1), .val (.int (2 : Int32)), .val (.int (1 : Int32)), .val (.ref u0)] [])) _
        refine XS.iload X5.here hx rfl (hb hby d2_12) rfl ?_
        show Steps p.tables e below (T5.setTop (mkF m 14 #[.val (.int p0), .val (.ref u0), .val (.ref bv1), .val (.int (2 : Int32)), .val (.int (1 : Int32)), .val (.ref u0)] [(.int (1 : Int32))])) _
        refine XS.iloadN X5.here hx rfl (hb hby d2_14) rfl ?_
        show Steps p.tables e below (T5.setTop (mkF m 15 #[.val (.int p0), .val (.ref u0), .val (.ref bv1), .val (.int (2 : Int32)), .val (.int (1 : Int32)), .val (.ref u0)] [(.int (2 : Int32)), (.int (1 : Int32))])) _
        refine XS.icmpNo X5.here hx rfl (hb hby d2_15) rfl (tlt (show (1 : Int32) < (2 : Int32) from (by decide))).2.1 ?_
        show Steps p.tables e below (T5.setTop (mkF m 18 #[.val (.int p0), .val (.ref u0), .val (.ref bv1), .val (.int (2 : Int32)), .val (.int (1 : Int32)), .val (.ref u0)] [])) _
        refine XS.aloadN X5.here hx rfl (hb hby d2_18) rfl rfl ?_
        show Steps p.tables e below (T5.setTop (mkF m 19 #[.val (.int p0), .val (.ref u0), .val (.ref bv1), .val (.int (2 : Int32)), .val (.int (1 : Int32)), .val (.ref u0)] [(.ref bv1)])) _
        refine XS.iload X5.here hx rfl (hb hby d2_19) rfl ?_
        show Steps p.tables e below (T5.setTop (mkF m 21 #[.val (.int p0), .val (.ref u0), .val (.ref bv1), .val (.int (2 : Int32)), .val (.int (1 : Int32)), .val (.ref u0)] [(.int (1 : Int32)), (.ref bv1)])) _
        refine X5.aaload hx (j := (1 : Int32)) (v := (.ref u1)) (by rw [e5]; exact Ar7.1) (State.isArrayOf_alike hZ.alike Ar7.2.1) rfl Ar7.2.2 hin7 hat7 (g := (mkF m 21 #[.val (.int p0), .val (.ref u0), .val (.ref bv1), .val (.int (2 : Int32)), .val (.int (1 : Int32)), .val (.ref u0)] [(.int (1 : Int32)), (.ref bv1)])) rfl rfl (hb hby d2_21) _ ?_
        show Steps p.tables e below (T5.setTop (mkF m 22 #[.val (.int p0), .val (.ref u0), .val (.ref bv1), .val (.int (2 : Int32)), .val (.int (1 : Int32)), .val (.ref u0)] [(.ref u1)])) _
        refine XS.astore X5.here hx rfl (hb hby d2_22) rfl rfl (l' := #[.val (.int p0), .val (.ref u0), .val (.ref bv1), .val (.int (2 : Int32)), .val (.int (1 : Int32)), .val (.ref u1)]) rfl ?_
        show Steps p.tables e below (T5.setTop (mkF m 24 #[.val (.int p0), .val (.ref u0), .val (.ref bv1), .val (.int (2 : Int32)), .val (.int (1 : Int32)), .val (.ref u1)] [])) _
        refine XS.aload X5.here hx rfl (hb hby d2_24) rfl rfl ?_
        show Steps p.tables e below (T5.setTop (mkF m 26 #[.val (.int p0), .val (.ref u0), .val (.ref bv1), .val (.int (2 : Int32)), .val (.int (1 : Int32)), .val (.ref u1)] [(.ref u1)])) _
        refine st9 _ ?_
        show Steps p.tables e below (T9.setTop (mkF m 29 #[.val (.int p0), .val (.ref u0), .val (.ref bv1), .val (.int (2 : Int32)), .val (.int (1 : Int32)), .val (.ref u1)] [(.int (1 : Int32))])) _
        refine XS.iloadN X9.here hx rfl (hb hby d2_29) rfl ?_
        exact kt)
    by_cases hc30_1 : (1 : Int32) = p0
    · exact absurd (hc30.trans hc30_1.symm) (by decide)
    · obtain ⟨fs, hr, hrun, hended, hW, hsame⟩ := X9.leave (v := some (.ref u0)) (fun h => by rw [Bd.returns] at h; cases h)
      refine ⟨_, _, pre10 _ ?_, hrun, hended, _, _, rfl, ?_, ⟨_, rfl⟩, hW, hsame.mono (by decide) (by decide)⟩
      · show Steps p.tables e below (T9.setTop (mkF m 30 #[.val (.int p0), .val (.ref u0), .val (.ref bv1), .val (.int (2 : Int32)), .val (.int (1 : Int32)), .val (.ref u1)] [(.int p0), (.int (1 : Int32))])) _
        refine XS.icmpYes X9.here hx rfl (pc0 := 30) (pc' := 36) rfl (hb hby d2_30) rfl (feq (show ¬ ((1 : Int32) = p0) from hc30_1)).2 (by decide) (by decide) ?_
        show Steps p.tables e below (T9.setTop (mkF m 36 #[.val (.int p0), .val (.ref u0), .val (.ref bv1), .val (.int (2 : Int32)), .val (.int (1 : Int32)), .val (.ref u1)] [])) _
        refine XS.iinc X9.here hx rfl (hb hby d2_36) rfl (l' := #[.val (.int p0), .val (.ref u0), .val (.ref bv1), .val (.int (2 : Int32)), .val (.int (2 : Int32)), .val (.ref u1)]) rfl ?_
        show Steps p.tables e below (T9.setTop (mkF m 39 #[.val (.int p0), .val (.ref u0), .val (.ref bv1), .val (.int (2 : Int32)), .val (.int (2 : Int32)), .val (.ref u1)] [])) _
        refine XS.goto X9.here hx rfl (pc0 := 39) (pc' := 12) rfl (hb hby d2_39) (by decide) (by decide) ?_
        show Steps p.tables e below (T9.setTop (mkF m 12 #[.val (.int p0), .val (.ref u0), .val (.ref bv1), .val (.int (2 : Int32)), .val (.int (2 : Int32)), .val (.ref u1)] [])) _
        refine XS.iload X9.here hx rfl (hb hby d2_12) rfl ?_
        show Steps p.tables e below (T9.setTop (mkF m 14 #[.val (.int p0), .val (.ref u0), .val (.ref bv1), .val (.int (2 : Int32)), .val (.int (2 : Int32)), .val (.ref u1)] [(.int (2 : Int32))])) _
        refine XS.iloadN X9.here hx rfl (hb hby d2_14) rfl ?_
        show Steps p.tables e below (T9.setTop (mkF m 15 #[.val (.int p0), .val (.ref u0), .val (.ref bv1), .val (.int (2 : Int32)), .val (.int (2 : Int32)), .val (.ref u1)] [(.int (2 : Int32)), (.int (2 : Int32))])) _
        refine XS.icmpYes X9.here hx rfl (pc0 := 15) (pc' := 42) rfl (hb hby d2_15) rfl (flt (show ¬ ((2 : Int32) < (2 : Int32)) from (by decide))).2.1 (by decide) (by decide) ?_
        show Steps p.tables e below (T9.setTop (mkF m 42 #[.val (.int p0), .val (.ref u0), .val (.ref bv1), .val (.int (2 : Int32)), .val (.int (2 : Int32)), .val (.ref u1)] [])) _
        refine XS.aloadN X9.here hx rfl (hb hby d2_42) rfl rfl ?_
        show Steps p.tables e below (T9.setTop (mkF m 43 #[.val (.int p0), .val (.ref u0), .val (.ref bv1), .val (.int (2 : Int32)), .val (.int (2 : Int32)), .val (.ref u1)] [(.ref u0)])) _
        jvm_step X9.here [X9.here.top, hx, (hb hby d2_43), X9.method', Bd.returns, Value.isRef, FieldType.isReference]
        first | (intro acts; rw [hr _ acts rfl rfl rfl]) | rw [hr _ _ rfl rfl rfl]
        exact Steps.refl _
      · show Q2 p0 u0 u1 h0 n0 _ T9.heap _
        rw [e9]
        exact ⟨(by rw [numV, if_pos hc30]), N1, KK1⟩
  · obtain ⟨cl11, Ar11, -, S11, Nn11, Hh11, -⟩ := id V1
    have hin11 : ¬ ((1 : Int32) < 0 ∨ cl11.slots.size ≤ ((1 : Int32)).toNatClampNeg) := inb_of S11 ⟨by decide, by decide⟩
    have hat11 : cl11.slots[((1 : Int32)).toNatClampNeg]? = some (.ref u1) := Hh11.at hin11 rfl
    have f12 := (F1.keep K1 (by simp))
    obtain ⟨T13, X13, e13, st13⟩ := getF X5 hx hZ hown (host := "") (Or.inl (hw _ (List.mem_of_getElem? (i := 25) rfl))) Via.refl e5 f12 (g := (mkF m 26 #[.val (.int p0), .val .null, .val (.ref bv1), .val (.int (2 : Int32)), .val (.int (1 : Int32)), .val (.ref u1)] [(.ref u1)])) rfl rfl (hb hby d2_26)
    have pre14 : ∀ t, Steps p.tables e below (T13.setTop (mkF m 30 #[.val (.int p0), .val .null, .val (.ref bv1), .val (.int (2 : Int32)), .val (.int (1 : Int32)), .val (.ref u1)] [(.int p0), (.int (1 : Int32))])) t → Steps p.tables e below (s₁.setTop (entryFrame m #[(.int p0)] 6)) t := fun t kt => pre6 t (by
        show Steps p.tables e below (T5.setTop (mkF m 30 #[.val (.int p0), .val .null, .val (.ref bv1), .val (.int (2 : Int32)), .val (.int (0 : Int32)), .val (.ref u0)] [(.int p0), (.int (0 : Int32))])) _
        refine XS.icmpYes X5.here hx rfl (pc0 := 30) (pc' := 36) rfl (hb hby d2_30) rfl (feq (show ¬ ((0 : Int32) = p0) from hc30)).2 (by decide) (by decide) ?_
        show Steps p.tables e below (T5.setTop (mkF m 36 #[.val (.int p0), .val .null, .val (.ref bv1), .val (.int (2 : Int32)), .val (.int (0 : Int32)), .val (.ref u0)] [])) _
        refine XS.iinc X5.here hx rfl (hb hby d2_36) rfl (l' := #[.val (.int p0), .val .null, .val (.ref bv1), .val (.int (2 : Int32)), .val (.int (1 : Int32)), .val (.ref u0)]) rfl ?_
        show Steps p.tables e below (T5.setTop (mkF m 39 #[.val (.int p0), .val .null, .val (.ref bv1), .val (.int (2 : Int32)), .val (.int (1 : Int32)), .val (.ref u0)] [])) _
        refine XS.goto X5.here hx rfl (pc0 := 39) (pc' := 12) rfl (hb hby d2_39) (by decide) (by decide) ?_
        show Steps p.tables e below (T5.setTop (mkF m 12 #[.val (.int p0), .val .null, .val (.ref bv1), .val (.int (2 : Int32)), .val (.int (1 : Int32)), .val (.ref u0)] [])) _
        refine XS.iload X5.here hx rfl (hb hby d2_12) rfl ?_
        show Steps p.tables e below (T5.setTop (mkF m 14 #[.val (.int p0), .val .null, .val (.ref bv1), .val (.int (2 : Int32)), .val (.int (1 : Int32)), .val (.ref u0)] [(.int (1 : Int32))])) _
        refine XS.iloadN X5.here hx rfl (hb hby d2_14) rfl ?_
        show Steps p.tables e below (T5.setTop (mkF m 15 #[.val (.int p0), .val .null, .val (.ref bv1), .val (.int (2 : Int32)), .val (.int (1 : Int32)), .val (.ref u0)] [(.int (2 : Int32)), (.int (1 : Int32))])) _
        refine XS.icmpNo X5.here hx rfl (hb hby d2_15) rfl (tlt (show (1 : Int32) < (2 : Int32) from (by decide))).2.1 ?_
        show Steps p.tables e below (T5.setTop (mkF m 18 #[.val (.int p0), .val .null, .val (.ref bv1), .val (.int (2 : Int32)), .val (.int (1 : Int32)), .val (.ref u0)] [])) _
        refine XS.aloadN X5.here hx rfl (hb hby d2_18) rfl rfl ?_
        show Steps p.tables e below (T5.setTop (mkF m 19 #[.val (.int p0), .val .null, .val (.ref bv1), .val (.int (2 : Int32)), .val (.int (1 : Int32)), .val (.ref u0)] [(.ref bv1)])) _
        refine XS.iload X5.here hx rfl (hb hby d2_19) rfl ?_
        show Steps p.tables e below (T5.setTop (mkF m 21 #[.val (.int p0), .val .null, .val (.ref bv1), .val (.int (2 : Int32)), .val (.int (1 : Int32)), .val (.ref u0)] [(.int (1 : Int32)), (.ref bv1)])) _
        refine X5.aaload hx (j := (1 : Int32)) (v := (.ref u1)) (by rw [e5]; exact Ar11.1) (State.isArrayOf_alike hZ.alike Ar11.2.1) rfl Ar11.2.2 hin11 hat11 (g := (mkF m 21 #[.val (.int p0), .val .null, .val (.ref bv1), .val (.int (2 : Int32)), .val (.int (1 : Int32)), .val (.ref u0)] [(.int (1 : Int32)), (.ref bv1)])) rfl rfl (hb hby d2_21) _ ?_
        show Steps p.tables e below (T5.setTop (mkF m 22 #[.val (.int p0), .val .null, .val (.ref bv1), .val (.int (2 : Int32)), .val (.int (1 : Int32)), .val (.ref u0)] [(.ref u1)])) _
        refine XS.astore X5.here hx rfl (hb hby d2_22) rfl rfl (l' := #[.val (.int p0), .val .null, .val (.ref bv1), .val (.int (2 : Int32)), .val (.int (1 : Int32)), .val (.ref u1)]) rfl ?_
        show Steps p.tables e below (T5.setTop (mkF m 24 #[.val (.int p0), .val .null, .val (.ref bv1), .val (.int (2 : Int32)), .val (.int (1 : Int32)), .val (.ref u1)] [])) _
        refine XS.aload X5.here hx rfl (hb hby d2_24) rfl rfl ?_
        show Steps p.tables e below (T5.setTop (mkF m 26 #[.val (.int p0), .val .null, .val (.ref bv1), .val (.int (2 : Int32)), .val (.int (1 : Int32)), .val (.ref u1)] [(.ref u1)])) _
        refine st13 _ ?_
        show Steps p.tables e below (T13.setTop (mkF m 29 #[.val (.int p0), .val .null, .val (.ref bv1), .val (.int (2 : Int32)), .val (.int (1 : Int32)), .val (.ref u1)] [(.int (1 : Int32))])) _
        refine XS.iloadN X13.here hx rfl (hb hby d2_29) rfl ?_
        exact kt)
    by_cases hc30_1 : (1 : Int32) = p0
    · obtain ⟨fs, hr, hrun, hended, hW, hsame⟩ := X13.leave (v := some (.ref u1)) (fun h => by rw [Bd.returns] at h; cases h)
      refine ⟨_, _, pre14 _ ?_, hrun, hended, _, _, rfl, ?_, ⟨_, rfl⟩, hW, hsame.mono (by decide) (by decide)⟩
      · show Steps p.tables e below (T13.setTop (mkF m 30 #[.val (.int p0), .val .null, .val (.ref bv1), .val (.int (2 : Int32)), .val (.int (1 : Int32)), .val (.ref u1)] [(.int p0), (.int (1 : Int32))])) _
        refine XS.icmpNo X13.here hx rfl (hb hby d2_30) rfl (teq (show (1 : Int32) = p0 from hc30_1)).2 ?_
        show Steps p.tables e below (T13.setTop (mkF m 33 #[.val (.int p0), .val .null, .val (.ref bv1), .val (.int (2 : Int32)), .val (.int (1 : Int32)), .val (.ref u1)] [])) _
        refine XS.aload X13.here hx rfl (hb hby d2_33) rfl rfl ?_
        show Steps p.tables e below (T13.setTop (mkF m 35 #[.val (.int p0), .val .null, .val (.ref bv1), .val (.int (2 : Int32)), .val (.int (1 : Int32)), .val (.ref u1)] [(.ref u1)])) _
        refine XS.astoreN X13.here hx rfl (hb hby d2_35) rfl rfl (l' := #[.val (.int p0), .val (.ref u1), .val (.ref bv1), .val (.int (2 : Int32)), .val (.int (1 : Int32)), .val (.ref u1)]) rfl ?_
        show Steps p.tables e below (T13.setTop (mkF m 36 #[.val (.int p0), .val (.ref u1), .val (.ref bv1), .val (.int (2 : Int32)), .val (.int (1 : Int32)), .val (.ref u1)] [])) _
        refine XS.iinc X13.here hx rfl (hb hby d2_36) rfl (l' := #[.val (.int p0), .val (.ref u1), .val (.ref bv1), .val (.int (2 : Int32)), .val (.int (2 : Int32)), .val (.ref u1)]) rfl ?_
        show Steps p.tables e below (T13.setTop (mkF m 39 #[.val (.int p0), .val (.ref u1), .val (.ref bv1), .val (.int (2 : Int32)), .val (.int (2 : Int32)), .val (.ref u1)] [])) _
        refine XS.goto X13.here hx rfl (pc0 := 39) (pc' := 12) rfl (hb hby d2_39) (by decide) (by decide) ?_
        show Steps p.tables e below (T13.setTop (mkF m 12 #[.val (.int p0), .val (.ref u1), .val (.ref bv1), .val (.int (2 : Int32)), .val (.int (2 : Int32)), .val (.ref u1)] [])) _
        refine XS.iload X13.here hx rfl (hb hby d2_12) rfl ?_
        show Steps p.tables e below (T13.setTop (mkF m 14 #[.val (.int p0), .val (.ref u1), .val (.ref bv1), .val (.int (2 : Int32)), .val (.int (2 : Int32)), .val (.ref u1)] [(.int (2 : Int32))])) _
        refine XS.iloadN X13.here hx rfl (hb hby d2_14) rfl ?_
        show Steps p.tables e below (T13.setTop (mkF m 15 #[.val (.int p0), .val (.ref u1), .val (.ref bv1), .val (.int (2 : Int32)), .val (.int (2 : Int32)), .val (.ref u1)] [(.int (2 : Int32)), (.int (2 : Int32))])) _
        refine XS.icmpYes X13.here hx rfl (pc0 := 15) (pc' := 42) rfl (hb hby d2_15) rfl (flt (show ¬ ((2 : Int32) < (2 : Int32)) from (by decide))).2.1 (by decide) (by decide) ?_
        show Steps p.tables e below (T13.setTop (mkF m 42 #[.val (.int p0), .val (.ref u1), .val (.ref bv1), .val (.int (2 : Int32)), .val (.int (2 : Int32)), .val (.ref u1)] [])) _
        refine XS.aloadN X13.here hx rfl (hb hby d2_42) rfl rfl ?_
        show Steps p.tables e below (T13.setTop (mkF m 43 #[.val (.int p0), .val (.ref u1), .val (.ref bv1), .val (.int (2 : Int32)), .val (.int (2 : Int32)), .val (.ref u1)] [(.ref u1)])) _
        jvm_step X13.here [X13.here.top, hx, (hb hby d2_43), X13.method', Bd.returns, Value.isRef, FieldType.isReference]
        first | (intro acts; rw [hr _ acts rfl rfl rfl]) | rw [hr _ _ rfl rfl rfl]
        exact Steps.refl _
      · show Q2 p0 u0 u1 h0 n0 _ T13.heap _
        rw [e13]
        exact ⟨(by rw [numV, if_neg hc30, if_pos hc30_1]), N1, KK1⟩
    · obtain ⟨fs, hr, hrun, hended, hW, hsame⟩ := X13.leave (v := some .null) (fun h => by rw [Bd.returns] at h; cases h)
      refine ⟨_, _, pre14 _ ?_, hrun, hended, _, _, rfl, ?_, ⟨_, rfl⟩, hW, hsame.mono (by decide) (by decide)⟩
      · show Steps p.tables e below (T13.setTop (mkF m 30 #[.val (.int p0), .val .null, .val (.ref bv1), .val (.int (2 : Int32)), .val (.int (1 : Int32)), .val (.ref u1)] [(.int p0), (.int (1 : Int32))])) _
        refine XS.icmpYes X13.here hx rfl (pc0 := 30) (pc' := 36) rfl (hb hby d2_30) rfl (feq (show ¬ ((1 : Int32) = p0) from hc30_1)).2 (by decide) (by decide) ?_
        show Steps p.tables e below (T13.setTop (mkF m 36 #[.val (.int p0), .val .null, .val (.ref bv1), .val (.int (2 : Int32)), .val (.int (1 : Int32)), .val (.ref u1)] [])) _
        refine XS.iinc X13.here hx rfl (hb hby d2_36) rfl (l' := #[.val (.int p0), .val .null, .val (.ref bv1), .val (.int (2 : Int32)), .val (.int (2 : Int32)), .val (.ref u1)]) rfl ?_
        show Steps p.tables e below (T13.setTop (mkF m 39 #[.val (.int p0), .val .null, .val (.ref bv1), .val (.int (2 : Int32)), .val (.int (2 : Int32)), .val (.ref u1)] [])) _
        refine XS.goto X13.here hx rfl (pc0 := 39) (pc' := 12) rfl (hb hby d2_39) (by decide) (by decide) ?_
        show Steps p.tables e below (T13.setTop (mkF m 12 #[.val (.int p0), .val .null, .val (.ref bv1), .val (.int (2 : Int32)), .val (.int (2 : Int32)), .val (.ref u1)] [])) _
        refine XS.iload X13.here hx rfl (hb hby d2_12) rfl ?_
        show Steps p.tables e below (T13.setTop (mkF m 14 #[.val (.int p0), .val .null, .val (.ref bv1), .val (.int (2 : Int32)), .val (.int (2 : Int32)), .val (.ref u1)] [(.int (2 : Int32))])) _
        refine XS.iloadN X13.here hx rfl (hb hby d2_14) rfl ?_
        show Steps p.tables e below (T13.setTop (mkF m 15 #[.val (.int p0), .val .null, .val (.ref bv1), .val (.int (2 : Int32)), .val (.int (2 : Int32)), .val (.ref u1)] [(.int (2 : Int32)), (.int (2 : Int32))])) _
        refine XS.icmpYes X13.here hx rfl (pc0 := 15) (pc' := 42) rfl (hb hby d2_15) rfl (flt (show ¬ ((2 : Int32) < (2 : Int32)) from (by decide))).2.1 (by decide) (by decide) ?_
        show Steps p.tables e below (T13.setTop (mkF m 42 #[.val (.int p0), .val .null, .val (.ref bv1), .val (.int (2 : Int32)), .val (.int (2 : Int32)), .val (.ref u1)] [])) _
        refine XS.aloadN X13.here hx rfl (hb hby d2_42) rfl rfl ?_
        show Steps p.tables e below (T13.setTop (mkF m 43 #[.val (.int p0), .val .null, .val (.ref bv1), .val (.int (2 : Int32)), .val (.int (2 : Int32)), .val (.ref u1)] [.null])) _
        jvm_step X13.here [X13.here.top, hx, (hb hby d2_43), X13.method', Bd.returns, Value.isRef, FieldType.isReference]
        first | (intro acts; rw [hr _ acts rfl rfl rfl]) | rw [hr _ _ rfl rfl rfl]
        exact Steps.refl _
      · show Q2 p0 u0 u1 h0 n0 _ T13.heap _
        rw [e13]
        exact ⟨(by rw [numV, if_neg hc30, if_neg hc30_1]), N1, KK1⟩
theorem d4_0 : decode prog_18_method_5_code 0 = .ok (.aload_n 0, 1) := by decide +kernel
theorem d4_1 : decode prog_18_method_5_code 1 = .ok (.getfield 29, 3) := by decide +kernel
theorem d4_4 : decode prog_18_method_5_code 4 = .ok (.ireturn, 1) := by decide +kernel
theorem ef_4 (m : MethodId) (o0 : Addr) : entryFrame m #[(.ref o0)] 1 = mkF m 0 #[.val (.ref o0)] [] := by first | (simp [entryFrame, mkF, argsToLocals, Value.category]; done) | rfl
def Q4 (g : Int32) (h0 : Heap) (n0 : Nat) (v : Option Value) (h : Heap) (L : List Loc) : Prop := v = some (.int g) ∧ Fr n0 L ∧ h = h0
set_option maxRecDepth 65536 in
set_option maxHeartbeats 40000000 in
theorem rm4 (l : Launch) (Z : State) (a0 : Array Value) (hw : ∀ d ∈ tables_1, d.before a0 Z = true) (ws : List Jvm.Cond) (o0 : Addr) (g : Int32) (h0 : Heap) (n0 : Nat) (Z0 : n0 ≤ h0.size) (Fn : Fld Z h0 o0 "com/example/bitsieve/bitsieve/filter/FilterKind" "number" "I" (.int g)) :
    MetFree l (⟨"com/example/bitsieve/bitsieve/filter/FilterKind", "number", "()I"⟩ : MethodName) (head1 (Jvm.Cond.code (⟨"com/example/bitsieve/bitsieve/filter/FilterKind", "number", "()I"⟩ : MethodName) prog_18_method_5_code 1 (some .int) :: ws) ({ frames := 0, cells := 0, slots := 0, locals := 0 } : Room)) (fun a U => a = #[(.ref o0)] ∧ Z.Warmed39 U.vm ∧ U.heap = h0) (fun _ _ _ _ _ => True) (fun _ U o U' => ∃ v L, o = .returned v ∧ Q4 g h0 n0 v U'.heap L ∧ FrameEnd U o U' L ({ frames := 0, cells := 0, slots := 0, locals := 0 } : Room).cells ({ frames := 0, cells := 0, slots := 0, locals := 0 } : Room).slots) := by
  refine MetFree.of_bodySF (plainFor_of_name pn_0) hisR ?_
  intro p e s m args below meth c s₁ Bd hml0 hP hK
  obtain ⟨rfl, hZ, hh⟩ := hP
  have hx := Bd.exec
  have hby := Bd.bytes
  have hml : c.maxLocals = 1 := hml0
  have hown : s.vm.findClass "com/example/bitsieve/bitsieve/filter/FilterKind" = some m.cls := findClass_of_methodNamed Bd.named
  have hnm := (name_of_methodNamed Bd.named Bd.method).1
  have X0 : Stand p l e ({ frames := 0, cells := 0, slots := 0, locals := 0 } : Room) s m #[(.ref o0)] below meth c s₁ [] 0 0 := Stand.of_body Bd
  have e0 : s₁.heap = h0 := by rw [← hh, Bd.state]; rfl
  have N0 := Fr.nil n0
  have pre0 : ∀ t, Steps p.tables e below (s₁.setTop (mkF m 0 #[.val (.ref o0)] [])) t → Steps p.tables e below (s₁.setTop (entryFrame m #[(.ref o0)] 1)) t := fun t k => castTop (ef_4 m o0) k
  obtain ⟨T1, X1, e1, st1⟩ := getF X0 hx hZ hown (host := "") (Or.inl (hw _ (List.mem_of_getElem? (i := 25) rfl))) Via.refl e0 Fn (g := (mkF m 1 #[.val (.ref o0)] [(.ref o0)])) rfl rfl (hb hby d4_1)
  obtain ⟨fs, hr, hrun, hended, hW, hsame⟩ := X1.leave (v := some (.int g)) (fun h => by rw [Bd.returns] at h; cases h)
  refine ⟨_, _, pre0 _ ?_, hrun, hended, _, _, rfl, ?_, ⟨_, rfl⟩, hW, hsame.mono (by decide) (by decide)⟩
  · show Steps p.tables e below (s₁.setTop (mkF m 0 #[.val (.ref o0)] [])) _
    refine XS.aloadN X0.here hx rfl (hb hby d4_0) rfl rfl ?_
    show Steps p.tables e below (s₁.setTop (mkF m 1 #[.val (.ref o0)] [(.ref o0)])) _
    refine st1 _ ?_
    show Steps p.tables e below (T1.setTop (mkF m 4 #[.val (.ref o0)] [(.int g)])) _
    exact retI X1 hx Bd.returns (hb hby d4_4) hr
  · show Q4 g h0 n0 _ T1.heap _
    rw [e1]
    exact ⟨rfl, N0, rfl⟩
theorem d1_0 : decode method_3_code 0 = .ok (.iload_n 0, 1) := by decide +kernel
theorem d1_1 : decode method_3_code 1 = .ok (.invokestatic 13, 3) := by decide +kernel
theorem d1_4 : decode method_3_code 4 = .ok (.astore_n 1, 1) := by decide +kernel
theorem d1_5 : decode method_3_code 5 = .ok (.aconst_null, 1) := by decide +kernel
theorem d1_6 : decode method_3_code 6 = .ok (.astore_n 2, 1) := by decide +kernel
theorem d1_7 : decode method_3_code 7 = .ok (.iload_n 0, 1) := by decide +kernel
theorem d1_8 : decode method_3_code 8 = .ok (.ifCond .ne 10, 3) := by decide +kernel
theorem d1_11 : decode method_3_code 11 = .ok (.getstatic 19, 3) := by decide +kernel
theorem d1_14 : decode method_3_code 14 = .ok (.astore_n 2, 1) := by decide +kernel
theorem d1_15 : decode method_3_code 15 = .ok (.goto 12, 3) := by decide +kernel
theorem d1_18 : decode method_3_code 18 = .ok (.iload_n 0, 1) := by decide +kernel
theorem d1_19 : decode method_3_code 19 = .ok (.iconst 1, 1) := by decide +kernel
theorem d1_20 : decode method_3_code 20 = .ok (.if_icmp .ne 7, 3) := by decide +kernel
theorem d1_23 : decode method_3_code 23 = .ok (.getstatic 23, 3) := by decide +kernel
theorem d1_26 : decode method_3_code 26 = .ok (.astore_n 2, 1) := by decide +kernel
theorem d1_27 : decode method_3_code 27 = .ok (.aload_n 1, 1) := by decide +kernel
theorem d1_28 : decode method_3_code 28 = .ok (.aload_n 2, 1) := by decide +kernel
theorem d1_29 : decode method_3_code 29 = .ok (.if_acmp .eq 5, 3) := by decide +kernel
theorem d1_34 : decode method_3_code 34 = .ok (.aload_n 1, 1) := by decide +kernel
theorem d1_35 : decode method_3_code 35 = .ok (.ifnull 11, 3) := by decide +kernel
theorem d1_38 : decode method_3_code 38 = .ok (.aload_n 1, 1) := by decide +kernel
theorem d1_39 : decode method_3_code 39 = .ok (.invokevirtual 26, 3) := by decide +kernel
theorem d1_42 : decode method_3_code 42 = .ok (.iload_n 0, 1) := by decide +kernel
theorem d1_43 : decode method_3_code 43 = .ok (.if_icmp .ne 7, 3) := by decide +kernel
theorem d1_46 : decode method_3_code 46 = .ok (.iconst 1, 1) := by decide +kernel
theorem d1_47 : decode method_3_code 47 = .ok (.goto 4, 3) := by decide +kernel
theorem d1_51 : decode method_3_code 51 = .ok (.ireturn, 1) := by decide +kernel
theorem pn_1 : plainName "com/example/bitsieve/bitsieve/filter/FilterKindNumberedPinLaw" = true := by first | (simp [plainName, overriddenIn]; done) | decide +kernel
theorem pd_1 : parseMethodDescriptor "(I)Lcom/example/bitsieve/bitsieve/filter/FilterKind;" = some ⟨[.int], some (.object "com/example/bitsieve/bitsieve/filter/FilterKind")⟩ := by decide +kernel
theorem pd_2 : parseMethodDescriptor "()I" = some ⟨[], some .int⟩ := by decide +kernel
theorem ef_1 (m : MethodId) (p0 : Int32) : entryFrame m #[(.int p0)] 3 = mkF m 0 #[.val (.int p0), .unset, .unset] [] := by first | (simp [entryFrame, mkF, argsToLocals, Value.category]; done) | rfl
def Q1 (h0 : Heap) (n0 : Nat) (v : Option Value) (h : Heap) (L : List Loc) : Prop := v = some (.int (1 : Int32)) ∧ Fr n0 L ∧ Keep h0 h []
set_option maxRecDepth 65536 in
set_option maxHeartbeats 40000000 in
theorem rm1 (l : Launch) (Z : State) (a0 : Array Value) (hw : ∀ d ∈ tables_1, d.before a0 Z = true) (ws : List Jvm.Cond) (p0 : Int32) (bV : Addr) (kV : ClassId) (u0 u1 : Addr) (h0 : Heap) (n0 : Nat) (Z0 : n0 ≤ h0.size) (S0 : Sta Z h0 "com/example/bitsieve/bitsieve/filter/FilterKind" "BLOOM" "Lcom/example/bitsieve/bitsieve/filter/FilterKind;" (.ref u0)) (E0 : Exa Z h0 u0 "com/example/bitsieve/bitsieve/filter/FilterKind") (F0 : Fld Z h0 u0 "com/example/bitsieve/bitsieve/filter/FilterKind" "number" "I" (.int (0 : Int32))) (S1 : Sta Z h0 "com/example/bitsieve/bitsieve/filter/FilterKind" "COUNTING" "Lcom/example/bitsieve/bitsieve/filter/FilterKind;" (.ref u1)) (E1 : Exa Z h0 u1 "com/example/bitsieve/bitsieve/filter/FilterKind") (F1 : Fld Z h0 u1 "com/example/bitsieve/bitsieve/filter/FilterKind" "number" "I" (.int (1 : Int32))) (SV : Sta Z h0 "com/example/bitsieve/bitsieve/filter/FilterKind" "$VALUES" "[Lcom/example/bitsieve/bitsieve/filter/FilterKind;" (.ref bV)) (EV : Exa Z h0 bV "[Lcom/example/bitsieve/bitsieve/filter/FilterKind;") (AV : Arv Z h0 bV kV (.object "com/example/bitsieve/bitsieve/filter/FilterKind") (2 : Int32) [(.ref u0), (.ref u1)] .null) :
    MetFree l (⟨"com/example/bitsieve/bitsieve/filter/FilterKindNumberedPinLaw", "agrees", "(I)Z"⟩ : MethodName) (head1 (Jvm.Cond.code (⟨"com/example/bitsieve/bitsieve/filter/FilterKindNumberedPinLaw", "agrees", "(I)Z"⟩ : MethodName) method_3_code 3 (some .boolean) :: ws) ({ frames := 3, cells := 1, slots := 2, locals := 42 } : Room)) (fun a U => a = #[(.int p0)] ∧ Z.Warmed39 U.vm ∧ U.heap = h0) (fun _ _ _ _ _ => True) (fun _ U o U' => ∃ v L, o = .returned v ∧ Q1 h0 n0 v U'.heap L ∧ FrameEnd U o U' L ({ frames := 3, cells := 1, slots := 2, locals := 42 } : Room).cells ({ frames := 3, cells := 1, slots := 2, locals := 42 } : Room).slots) := by
  refine MetFree.of_bodySF (plainFor_of_name pn_1) hisR ?_
  intro p e s m args below meth c s₁ Bd hml0 hP hK
  obtain ⟨rfl, hZ, hh⟩ := hP
  have hx := Bd.exec
  have hby := Bd.bytes
  have hml : c.maxLocals = 3 := hml0
  have hown : s.vm.findClass "com/example/bitsieve/bitsieve/filter/FilterKindNumberedPinLaw" = some m.cls := findClass_of_methodNamed Bd.named
  have hnm := (name_of_methodNamed Bd.named Bd.method).1
  have X0 : Stand p l e ({ frames := 3, cells := 1, slots := 2, locals := 42 } : Room) s m #[(.int p0)] below meth c s₁ [] 0 0 := Stand.of_body Bd
  have e0 : s₁.heap = h0 := by rw [← hh, Bd.state]; rfl
  have N0 := Fr.nil n0
  have pre0 : ∀ t, Steps p.tables e below (s₁.setTop (mkF m 0 #[.val (.int p0), .unset, .unset] [])) t → Steps p.tables e below (s₁.setTop (entryFrame m #[(.int p0)] 3)) t := fun t k => castTop (ef_1 m p0) k
  obtain ⟨_, _, ⟨T1, L1, k1, n1⟩, -, X1, ⟨Lc1, hQ1, l1, y1, z1⟩, st1⟩ := Jvm.LawKit.callS X0 hx (y := (⟨"com/example/bitsieve/bitsieve/filter/FilterKind", "numbered", "(I)Lcom/example/bitsieve/bitsieve/filter/FilterKind;"⟩ : MethodName)) hown (mvT hZ (hw _ (List.mem_of_getElem? (i := 4) rfl))) (mvT hZ (hw _ (List.mem_of_getElem? (i := 5) rfl))) (mvT hZ (hw _ (List.mem_of_getElem? (i := 6) rfl))) (mvT hZ (hw _ (List.mem_of_getElem? (i := 7) rfl))) (by decide) (backOf (W := 0) (rm2 l Z a0 hw [] p0 bV kV u0 u1 h0 n0 Z0 S0 E0 F0 S1 E1 F1 SV EV AV) hZ (hw _ (List.mem_of_getElem? (i := 7) rfl)) (hw _ (List.mem_of_getElem? (i := 6) rfl)) (by decide) (by decide)) (g := (mkF m 1 #[.val (.int p0), .unset, .unset] [(.int p0)])) rfl (by rw [hml]; rfl) (argsL := [(.int p0)]) (rest := []) (lenOf pd_1 rfl) rfl (by show 2 * 0 + _ ≤ _; exact Nat.le_of_eq rfl) (hb hby d1_1) (fun _ _ => ⟨rfl, e0, (by decide : 0 + 1 ≤ _), (by decide : 0 + 2 ≤ _)⟩)
  dsimp only [Pt.U, Pt.locs, Pt.cells, Pt.slots] at X1 l1 y1 z1 st1 hQ1
  subst l1 y1 z1
  obtain ⟨rfl, N1q, K1⟩ := hQ1
  have KK1 : Keep h0 T1.heap [] := Keep.trans (Keep.refl h0 []) K1 own_side0
  have Z1 : n0 ≤ T1.heap.size := Nat.le_trans Z0 KK1.1
  have N1 := Fr.app N0 N1q
  have pre2 : ∀ t, Steps p.tables e below (T1.setTop (mkF m 4 #[.val (.int p0), .unset, .unset] [(numV p0 u0 u1)])) t → Steps p.tables e below (s₁.setTop (entryFrame m #[(.int p0)] 3)) t := fun t kt => pre0 t (by
      show Steps p.tables e below (s₁.setTop (mkF m 0 #[.val (.int p0), .unset, .unset] [])) _
      refine XS.iloadN X0.here hx rfl (hb hby d1_0) rfl ?_
      show Steps p.tables e below (s₁.setTop (mkF m 1 #[.val (.int p0), .unset, .unset] [(.int p0)])) _
      refine st1 _ ?_
      exact kt)
  by_cases hk0 : (0 : Int32) = p0
  · have ek : numV p0 u0 u1 = (.ref u0) := by rw [numV, if_pos hk0]
    rw [ek] at pre2
    have f3 := (own_sta_keep S0 K1)
    obtain ⟨T4, X4, e4, st4⟩ := getS2 X1 hx hZ hown (host := "") (Or.inl (hw _ (List.mem_of_getElem? (i := 27) rfl))) Via.refl rfl f3 (g := (mkF m 11 #[.val (.int p0), .val (.ref u0), .val .null] [])) rfl (hb hby d1_11)
    have f6 := (F0.keep K1 (by simp))
    have f7 := (E0.keep K1)
    obtain ⟨cq5, kq5, q5a, q5b, q5c⟩ := isOf hZ e4 f7
    obtain ⟨_, _, ⟨T5, L5, k5, n5⟩, -, X5, ⟨Lc5, hQ5, l5, y5, z5⟩, st5⟩ := X4.virtualBack hx (y := (⟨"com/example/bitsieve/bitsieve/filter/FilterKind", "number", "()I"⟩ : MethodName)) (z := (⟨"com/example/bitsieve/bitsieve/filter/FilterKind", "number", "()I"⟩ : MethodName)) hown (mvT hZ (hw _ (List.mem_of_getElem? (i := 28) rfl))) (mvT hZ (hw _ (List.mem_of_getElem? (i := 29) rfl))) (notFace_of_selects (args := #[]) (mvT hZ (hw _ (List.mem_of_getElem? (i := 31) rfl)))) (mvT hZ (hw _ (List.mem_of_getElem? (i := 31) rfl))) (mvT hZ (hw _ (List.mem_of_getElem? (i := 30) rfl))) (by decide) (backOf (W := 0) (rm4 l Z a0 hw [] u0 (0 : Int32) T1.heap n0 Z1 f6) hZ (hw _ (List.mem_of_getElem? (i := 32) rfl)) (hw _ (List.mem_of_getElem? (i := 6) rfl)) (by decide) (by decide)) q5a q5c (g := (mkF m 39 #[.val (.int p0), .val (.ref u0), .val (.ref u0)] [(.ref u0)])) rfl (by rw [hml]; rfl) (Steps.refl _) (argsL := []) (rest := []) (lenOf pd_2 rfl) rfl (by show 2 * 0 + _ ≤ _; exact Nat.le_of_eq rfl) (hb hby d1_39) (fun _ _ => ⟨rfl, e4, (by decide : 1 + 0 ≤ _), (by decide : 2 + 0 ≤ _)⟩)
    dsimp only [Pt.U, Pt.locs, Pt.cells, Pt.slots] at X5 l5 y5 z5 st5 hQ5
    subst l5 y5 z5
    obtain ⟨rfl, N5q, e5⟩ := hQ5
    have N5 := Fr.app N1 N5q
    obtain ⟨fs, hr, hrun, hended, hW, hsame⟩ := X5.leave (v := some (.int (1 : Int32))) (fun h => by rw [Bd.returns] at h; cases h)
    refine ⟨_, _, pre2 _ ?_, hrun, hended, _, _, rfl, ?_, ⟨_, rfl⟩, hW, hsame.mono (by decide) (by decide)⟩
    · show Steps p.tables e below (T1.setTop (mkF m 4 #[.val (.int p0), .unset, .unset] [(.ref u0)])) _
      refine XS.astoreN X1.here hx rfl (hb hby d1_4) rfl rfl (l' := #[.val (.int p0), .val (.ref u0), .unset]) rfl ?_
      show Steps p.tables e below (T1.setTop (mkF m 5 #[.val (.int p0), .val (.ref u0), .unset] [])) _
      refine XS.aconstNull X1.here hx rfl (hb hby d1_5) ?_
      show Steps p.tables e below (T1.setTop (mkF m 6 #[.val (.int p0), .val (.ref u0), .unset] [.null])) _
      refine XS.astoreN X1.here hx rfl (hb hby d1_6) rfl rfl (l' := #[.val (.int p0), .val (.ref u0), .val .null]) rfl ?_
      show Steps p.tables e below (T1.setTop (mkF m 7 #[.val (.int p0), .val (.ref u0), .val .null] [])) _
      refine XS.iloadN X1.here hx rfl (hb hby d1_7) rfl ?_
      show Steps p.tables e below (T1.setTop (mkF m 8 #[.val (.int p0), .val (.ref u0), .val .null] [(.int p0)])) _
      refine XS.ifNo X1.here hx rfl (hb hby d1_8) rfl ((if0 _ _).trans (teq (show p0 = (0 : Int32) from hk0.symm)).2) ?_
      show Steps p.tables e below (T1.setTop (mkF m 11 #[.val (.int p0), .val (.ref u0), .val .null] [])) _
      refine st4 _ ?_
      show Steps p.tables e below (T4.setTop (mkF m 14 #[.val (.int p0), .val (.ref u0), .val .null] [(.ref u0)])) _
      refine XS.astoreN X4.here hx rfl (hb hby d1_14) rfl rfl (l' := #[.val (.int p0), .val (.ref u0), .val (.ref u0)]) rfl ?_
      show Steps p.tables e below (T4.setTop (mkF m 15 #[.val (.int p0), .val (.ref u0), .val (.ref u0)] [])) _
      refine XS.goto X4.here hx rfl (pc0 := 15) (pc' := 27) rfl (hb hby d1_15) (by decide) (by decide) ?_
      show Steps p.tables e below (T4.setTop (mkF m 27 #[.val (.int p0), .val (.ref u0), .val (.ref u0)] [])) _
      refine XS.aloadN X4.here hx rfl (hb hby d1_27) rfl rfl ?_
      show Steps p.tables e below (T4.setTop (mkF m 28 #[.val (.int p0), .val (.ref u0), .val (.ref u0)] [(.ref u0)])) _
      refine XS.aloadN X4.here hx rfl (hb hby d1_28) rfl rfl ?_
      show Steps p.tables e below (T4.setTop (mkF m 29 #[.val (.int p0), .val (.ref u0), .val (.ref u0)] [(.ref u0), (.ref u0)])) _
      refine Jvm.RoadKit.acmp (g := (mkF m 29 #[.val (.int p0), .val (.ref u0), .val (.ref u0)] [(.ref u0), (.ref u0)])) X4 hx rfl rfl rfl (pc0 := 29) (pc' := 34) (same := true) rfl (hb hby d1_29) rfl (decide_eq_true rfl) (by decide) (by decide) ?_
      show Steps p.tables e below (T4.setTop (mkF m 34 #[.val (.int p0), .val (.ref u0), .val (.ref u0)] [])) _
      refine XS.aloadN X4.here hx rfl (hb hby d1_34) rfl rfl ?_
      show Steps p.tables e below (T4.setTop (mkF m 35 #[.val (.int p0), .val (.ref u0), .val (.ref u0)] [(.ref u0)])) _
      refine XS.ifnullNo X4.here hx rfl (hb hby d1_35) rfl ?_
      show Steps p.tables e below (T4.setTop (mkF m 38 #[.val (.int p0), .val (.ref u0), .val (.ref u0)] [])) _
      refine XS.aloadN X4.here hx rfl (hb hby d1_38) rfl rfl ?_
      show Steps p.tables e below (T4.setTop (mkF m 39 #[.val (.int p0), .val (.ref u0), .val (.ref u0)] [(.ref u0)])) _
      refine st5.trans ?_
      show Steps p.tables e below (T5.setTop (mkF m 42 #[.val (.int p0), .val (.ref u0), .val (.ref u0)] [(.int (0 : Int32))])) _
      refine XS.iloadN X5.here hx rfl (hb hby d1_42) rfl ?_
      show Steps p.tables e below (T5.setTop (mkF m 43 #[.val (.int p0), .val (.ref u0), .val (.ref u0)] [(.int p0), (.int (0 : Int32))])) _
      refine XS.icmpNo X5.here hx rfl (hb hby d1_43) rfl (teq (show (0 : Int32) = p0 from hk0)).2 ?_
      show Steps p.tables e below (T5.setTop (mkF m 46 #[.val (.int p0), .val (.ref u0), .val (.ref u0)] [])) _
      refine XS.iconst X5.here hx rfl (hb hby d1_46) ?_
      show Steps p.tables e below (T5.setTop (mkF m 47 #[.val (.int p0), .val (.ref u0), .val (.ref u0)] [(.int (1 : Int32))])) _
      refine XS.goto X5.here hx rfl (pc0 := 47) (pc' := 51) rfl (hb hby d1_47) (by decide) (by decide) ?_
      show Steps p.tables e below (T5.setTop (mkF m 51 #[.val (.int p0), .val (.ref u0), .val (.ref u0)] [(.int (1 : Int32))])) _
      exact retN X5 hx (t := .boolean) Bd.returns (by simp) (hb hby d1_51) hr
    · show Q1 h0 n0 _ T5.heap _
      rw [e5]
      exact ⟨rfl, N5, KK1⟩
  · by_cases hk1 : (1 : Int32) = p0
    · have ek : numV p0 u0 u1 = (.ref u1) := by rw [numV, if_neg hk0, if_pos hk1]
      rw [ek] at pre2
      have f8 := (own_sta_keep S1 K1)
      obtain ⟨T9, X9, e9, st9⟩ := getS2 X1 hx hZ hown (host := "") (Or.inl (hw _ (List.mem_of_getElem? (i := 33) rfl))) Via.refl rfl f8 (g := (mkF m 23 #[.val (.int p0), .val (.ref u1), .val .null] [])) rfl (hb hby d1_23)
      have f11 := (F1.keep K1 (by simp))
      have f12 := (E1.keep K1)
      obtain ⟨cq10, kq10, q10a, q10b, q10c⟩ := isOf hZ e9 f12
      obtain ⟨_, _, ⟨T10, L10, k10, n10⟩, -, X10, ⟨Lc10, hQ10, l10, y10, z10⟩, st10⟩ := X9.virtualBack hx (y := (⟨"com/example/bitsieve/bitsieve/filter/FilterKind", "number", "()I"⟩ : MethodName)) (z := (⟨"com/example/bitsieve/bitsieve/filter/FilterKind", "number", "()I"⟩ : MethodName)) hown (mvT hZ (hw _ (List.mem_of_getElem? (i := 28) rfl))) (mvT hZ (hw _ (List.mem_of_getElem? (i := 29) rfl))) (notFace_of_selects (args := #[]) (mvT hZ (hw _ (List.mem_of_getElem? (i := 31) rfl)))) (mvT hZ (hw _ (List.mem_of_getElem? (i := 31) rfl))) (mvT hZ (hw _ (List.mem_of_getElem? (i := 30) rfl))) (by decide) (backOf (W := 0) (rm4 l Z a0 hw [] u1 (1 : Int32) T1.heap n0 Z1 f11) hZ (hw _ (List.mem_of_getElem? (i := 32) rfl)) (hw _ (List.mem_of_getElem? (i := 6) rfl)) (by decide) (by decide)) q10a q10c (g := (mkF m 39 #[.val (.int p0), .val (.ref u1), .val (.ref u1)] [(.ref u1)])) rfl (by rw [hml]; rfl) (Steps.refl _) (argsL := []) (rest := []) (lenOf pd_2 rfl) rfl (by show 2 * 0 + _ ≤ _; exact Nat.le_of_eq rfl) (hb hby d1_39) (fun _ _ => ⟨rfl, e9, (by decide : 1 + 0 ≤ _), (by decide : 2 + 0 ≤ _)⟩)
      dsimp only [Pt.U, Pt.locs, Pt.cells, Pt.slots] at X10 l10 y10 z10 st10 hQ10
      subst l10 y10 z10
      obtain ⟨rfl, N10q, e10⟩ := hQ10
      have N10 := Fr.app N1 N10q
      obtain ⟨fs, hr, hrun, hended, hW, hsame⟩ := X10.leave (v := some (.int (1 : Int32))) (fun h => by rw [Bd.returns] at h; cases h)
      refine ⟨_, _, pre2 _ ?_, hrun, hended, _, _, rfl, ?_, ⟨_, rfl⟩, hW, hsame.mono (by decide) (by decide)⟩
      · show Steps p.tables e below (T1.setTop (mkF m 4 #[.val (.int p0), .unset, .unset] [(.ref u1)])) _
        refine XS.astoreN X1.here hx rfl (hb hby d1_4) rfl rfl (l' := #[.val (.int p0), .val (.ref u1), .unset]) rfl ?_
        show Steps p.tables e below (T1.setTop (mkF m 5 #[.val (.int p0), .val (.ref u1), .unset] [])) _
        refine XS.aconstNull X1.here hx rfl (hb hby d1_5) ?_
        show Steps p.tables e below (T1.setTop (mkF m 6 #[.val (.int p0), .val (.ref u1), .unset] [.null])) _
        refine XS.astoreN X1.here hx rfl (hb hby d1_6) rfl rfl (l' := #[.val (.int p0), .val (.ref u1), .val .null]) rfl ?_
        show Steps p.tables e below (T1.setTop (mkF m 7 #[.val (.int p0), .val (.ref u1), .val .null] [])) _
        refine XS.iloadN X1.here hx rfl (hb hby d1_7) rfl ?_
        show Steps p.tables e below (T1.setTop (mkF m 8 #[.val (.int p0), .val (.ref u1), .val .null] [(.int p0)])) _
        refine XS.ifYes X1.here hx rfl (pc0 := 8) (pc' := 18) rfl (hb hby d1_8) rfl ((if0 _ _).trans (feq (show ¬ (p0 = (0 : Int32)) from (fun q => hk0 q.symm))).2) (by decide) (by decide) ?_
        show Steps p.tables e below (T1.setTop (mkF m 18 #[.val (.int p0), .val (.ref u1), .val .null] [])) _
        refine XS.iloadN X1.here hx rfl (hb hby d1_18) rfl ?_
        show Steps p.tables e below (T1.setTop (mkF m 19 #[.val (.int p0), .val (.ref u1), .val .null] [(.int p0)])) _
        refine XS.iconst X1.here hx rfl (hb hby d1_19) ?_
        show Steps p.tables e below (T1.setTop (mkF m 20 #[.val (.int p0), .val (.ref u1), .val .null] [(.int (1 : Int32)), (.int p0)])) _
        refine XS.icmpNo X1.here hx rfl (hb hby d1_20) rfl (teq (show p0 = (1 : Int32) from hk1.symm)).2 ?_
        show Steps p.tables e below (T1.setTop (mkF m 23 #[.val (.int p0), .val (.ref u1), .val .null] [])) _
        refine st9 _ ?_
        show Steps p.tables e below (T9.setTop (mkF m 26 #[.val (.int p0), .val (.ref u1), .val .null] [(.ref u1)])) _
        refine XS.astoreN X9.here hx rfl (hb hby d1_26) rfl rfl (l' := #[.val (.int p0), .val (.ref u1), .val (.ref u1)]) rfl ?_
        show Steps p.tables e below (T9.setTop (mkF m 27 #[.val (.int p0), .val (.ref u1), .val (.ref u1)] [])) _
        refine XS.aloadN X9.here hx rfl (hb hby d1_27) rfl rfl ?_
        show Steps p.tables e below (T9.setTop (mkF m 28 #[.val (.int p0), .val (.ref u1), .val (.ref u1)] [(.ref u1)])) _
        refine XS.aloadN X9.here hx rfl (hb hby d1_28) rfl rfl ?_
        show Steps p.tables e below (T9.setTop (mkF m 29 #[.val (.int p0), .val (.ref u1), .val (.ref u1)] [(.ref u1), (.ref u1)])) _
        refine Jvm.RoadKit.acmp (g := (mkF m 29 #[.val (.int p0), .val (.ref u1), .val (.ref u1)] [(.ref u1), (.ref u1)])) X9 hx rfl rfl rfl (pc0 := 29) (pc' := 34) (same := true) rfl (hb hby d1_29) rfl (decide_eq_true rfl) (by decide) (by decide) ?_
        show Steps p.tables e below (T9.setTop (mkF m 34 #[.val (.int p0), .val (.ref u1), .val (.ref u1)] [])) _
        refine XS.aloadN X9.here hx rfl (hb hby d1_34) rfl rfl ?_
        show Steps p.tables e below (T9.setTop (mkF m 35 #[.val (.int p0), .val (.ref u1), .val (.ref u1)] [(.ref u1)])) _
        refine XS.ifnullNo X9.here hx rfl (hb hby d1_35) rfl ?_
        show Steps p.tables e below (T9.setTop (mkF m 38 #[.val (.int p0), .val (.ref u1), .val (.ref u1)] [])) _
        refine XS.aloadN X9.here hx rfl (hb hby d1_38) rfl rfl ?_
        show Steps p.tables e below (T9.setTop (mkF m 39 #[.val (.int p0), .val (.ref u1), .val (.ref u1)] [(.ref u1)])) _
        refine st10.trans ?_
        show Steps p.tables e below (T10.setTop (mkF m 42 #[.val (.int p0), .val (.ref u1), .val (.ref u1)] [(.int (1 : Int32))])) _
        refine XS.iloadN X10.here hx rfl (hb hby d1_42) rfl ?_
        show Steps p.tables e below (T10.setTop (mkF m 43 #[.val (.int p0), .val (.ref u1), .val (.ref u1)] [(.int p0), (.int (1 : Int32))])) _
        refine XS.icmpNo X10.here hx rfl (hb hby d1_43) rfl (teq (show (1 : Int32) = p0 from hk1)).2 ?_
        show Steps p.tables e below (T10.setTop (mkF m 46 #[.val (.int p0), .val (.ref u1), .val (.ref u1)] [])) _
        refine XS.iconst X10.here hx rfl (hb hby d1_46) ?_
        show Steps p.tables e below (T10.setTop (mkF m 47 #[.val (.int p0), .val (.ref u1), .val (.ref u1)] [(.int (1 : Int32))])) _
        refine XS.goto X10.here hx rfl (pc0 := 47) (pc' := 51) rfl (hb hby d1_47) (by decide) (by decide) ?_
        show Steps p.tables e below (T10.setTop (mkF m 51 #[.val (.int p0), .val (.ref u1), .val (.ref u1)] [(.int (1 : Int32))])) _
        exact retN X10 hx (t := .boolean) Bd.returns (by simp) (hb hby d1_51) hr
      · show Q1 h0 n0 _ T10.heap _
        rw [e10]
        exact ⟨rfl, N10, KK1⟩
    · have ek : numV p0 u0 u1 = .null := by rw [numV, if_neg hk0, if_neg hk1]
      rw [ek] at pre2
      obtain ⟨fs, hr, hrun, hended, hW, hsame⟩ := X1.leave (v := some (.int (1 : Int32))) (fun h => by rw [Bd.returns] at h; cases h)
      refine ⟨_, _, pre2 _ ?_, hrun, hended, _, _, rfl, ?_, ⟨_, rfl⟩, hW, hsame.mono (by decide) (by decide)⟩
      · show Steps p.tables e below (T1.setTop (mkF m 4 #[.val (.int p0), .unset, .unset] [.null])) _
        refine XS.astoreN X1.here hx rfl (hb hby d1_4) rfl rfl (l' := #[.val (.int p0), .val .null, .unset]) rfl ?_
        show Steps p.tables e below (T1.setTop (mkF m 5 #[.val (.int p0), .val .null, .unset] [])) _
        refine XS.aconstNull X1.here hx rfl (hb hby d1_5) ?_
        show Steps p.tables e below (T1.setTop (mkF m 6 #[.val (.int p0), .val .null, .unset] [.null])) _
        refine XS.astoreN X1.here hx rfl (hb hby d1_6) rfl rfl (l' := #[.val (.int p0), .val .null, .val .null]) rfl ?_
        show Steps p.tables e below (T1.setTop (mkF m 7 #[.val (.int p0), .val .null, .val .null] [])) _
        refine XS.iloadN X1.here hx rfl (hb hby d1_7) rfl ?_
        show Steps p.tables e below (T1.setTop (mkF m 8 #[.val (.int p0), .val .null, .val .null] [(.int p0)])) _
        refine XS.ifYes X1.here hx rfl (pc0 := 8) (pc' := 18) rfl (hb hby d1_8) rfl ((if0 _ _).trans (feq (show ¬ (p0 = (0 : Int32)) from (fun q => hk0 q.symm))).2) (by decide) (by decide) ?_
        show Steps p.tables e below (T1.setTop (mkF m 18 #[.val (.int p0), .val .null, .val .null] [])) _
        refine XS.iloadN X1.here hx rfl (hb hby d1_18) rfl ?_
        show Steps p.tables e below (T1.setTop (mkF m 19 #[.val (.int p0), .val .null, .val .null] [(.int p0)])) _
        refine XS.iconst X1.here hx rfl (hb hby d1_19) ?_
        show Steps p.tables e below (T1.setTop (mkF m 20 #[.val (.int p0), .val .null, .val .null] [(.int (1 : Int32)), (.int p0)])) _
        refine XS.icmpYes X1.here hx rfl (pc0 := 20) (pc' := 27) rfl (hb hby d1_20) rfl (feq (show ¬ (p0 = (1 : Int32)) from (fun q => hk1 q.symm))).2 (by decide) (by decide) ?_
        show Steps p.tables e below (T1.setTop (mkF m 27 #[.val (.int p0), .val .null, .val .null] [])) _
        refine XS.aloadN X1.here hx rfl (hb hby d1_27) rfl rfl ?_
        show Steps p.tables e below (T1.setTop (mkF m 28 #[.val (.int p0), .val .null, .val .null] [.null])) _
        refine XS.aloadN X1.here hx rfl (hb hby d1_28) rfl rfl ?_
        show Steps p.tables e below (T1.setTop (mkF m 29 #[.val (.int p0), .val .null, .val .null] [.null, .null])) _
        refine Jvm.RoadKit.acmp (g := (mkF m 29 #[.val (.int p0), .val .null, .val .null] [.null, .null])) X1 hx rfl rfl rfl (pc0 := 29) (pc' := 34) (same := true) rfl (hb hby d1_29) rfl (decide_eq_true rfl) (by decide) (by decide) ?_
        show Steps p.tables e below (T1.setTop (mkF m 34 #[.val (.int p0), .val .null, .val .null] [])) _
        refine XS.aloadN X1.here hx rfl (hb hby d1_34) rfl rfl ?_
        show Steps p.tables e below (T1.setTop (mkF m 35 #[.val (.int p0), .val .null, .val .null] [.null])) _
        refine XS.ifnullYes X1.here hx rfl (pc0 := 35) (pc' := 46) rfl (hb hby d1_35) rfl (by decide) (by decide) ?_
        show Steps p.tables e below (T1.setTop (mkF m 46 #[.val (.int p0), .val .null, .val .null] [])) _
        refine XS.iconst X1.here hx rfl (hb hby d1_46) ?_
        show Steps p.tables e below (T1.setTop (mkF m 47 #[.val (.int p0), .val .null, .val .null] [(.int (1 : Int32))])) _
        refine XS.goto X1.here hx rfl (pc0 := 47) (pc' := 51) rfl (hb hby d1_47) (by decide) (by decide) ?_
        show Steps p.tables e below (T1.setTop (mkF m 51 #[.val (.int p0), .val .null, .val .null] [(.int (1 : Int32))])) _
        exact retN X1 hx (t := .boolean) Bd.returns (by simp) (hb hby d1_51) hr
      · show Q1 h0 n0 _ T1.heap _
        exact ⟨rfl, N1, KK1⟩
theorem pd_3 : parseMethodDescriptor "(I)Z" = some ⟨[.int], some .boolean⟩ := by decide +kernel
theorem ef_0 (m : MethodId) (p0 : Int32) (p1 : Int32) : entryFrame m #[(.int p0), (.int p1)] maxLocals = mkF m 0 #[.val (.int p0), .val (.int p1), .unset] [] := by first | (simp [entryFrame, mkF, argsToLocals, Value.category, maxLocals]; done) | rfl
def Q0 (h0 : Heap) (n0 : Nat) (v : Option Value) (h : Heap) (L : List Loc) : Prop := v = some (.int 1) ∧ Fr n0 L
set_option maxRecDepth 65536 in
set_option maxHeartbeats 40000000 in
theorem rm0 (l : Launch) (Z : State) (a0 : Array Value) (hw : ∀ d ∈ tables_1, d.before a0 Z = true) (ws : List Jvm.Cond) (p0 p1 : Int32) (bV : Addr) (kV : ClassId) (u0 u1 : Addr) (h0 : Heap) (n0 : Nat) (Z0 : n0 ≤ h0.size) (S0 : Sta Z h0 "com/example/bitsieve/bitsieve/filter/FilterKind" "BLOOM" "Lcom/example/bitsieve/bitsieve/filter/FilterKind;" (.ref u0)) (E0 : Exa Z h0 u0 "com/example/bitsieve/bitsieve/filter/FilterKind") (F0 : Fld Z h0 u0 "com/example/bitsieve/bitsieve/filter/FilterKind" "number" "I" (.int (0 : Int32))) (S1 : Sta Z h0 "com/example/bitsieve/bitsieve/filter/FilterKind" "COUNTING" "Lcom/example/bitsieve/bitsieve/filter/FilterKind;" (.ref u1)) (E1 : Exa Z h0 u1 "com/example/bitsieve/bitsieve/filter/FilterKind") (F1 : Fld Z h0 u1 "com/example/bitsieve/bitsieve/filter/FilterKind" "number" "I" (.int (1 : Int32))) (SV : Sta Z h0 "com/example/bitsieve/bitsieve/filter/FilterKind" "$VALUES" "[Lcom/example/bitsieve/bitsieve/filter/FilterKind;" (.ref bV)) (EV : Exa Z h0 bV "[Lcom/example/bitsieve/bitsieve/filter/FilterKind;") (AV : Arv Z h0 bV kV (.object "com/example/bitsieve/bitsieve/filter/FilterKind") (2 : Int32) [(.ref u0), (.ref u1)] .null) :
    MetFree l x (head1 (Jvm.Cond.code x code maxLocals ret :: ws) room_1) (fun a U => a = #[(.int p0), (.int p1)] ∧ Z.Warmed39 U.vm ∧ U.heap = h0) (fun _ _ _ _ _ => True) (fun _ U o U' => ∃ v L, o = .returned v ∧ Q0 h0 n0 v U'.heap L ∧ FrameEnd U o U' L 2 4) := by
  refine MetFree.of_bodySF (plainFor_of_name pn_1) hisR ?_
  intro p e s m args below meth c s₁ Bd hml0 hP hK
  obtain ⟨rfl, hZ, hh⟩ := hP
  have hx := Bd.exec
  have hby := Bd.bytes
  have hml : c.maxLocals = 3 := hml0
  have hown : s.vm.findClass "com/example/bitsieve/bitsieve/filter/FilterKindNumberedPinLaw" = some m.cls := findClass_of_methodNamed Bd.named
  have hnm := (name_of_methodNamed Bd.named Bd.method).1
  have X0 : Stand p l e room_1 s m #[(.int p0), (.int p1)] below meth c s₁ [] 0 0 := Stand.of_body Bd
  have e0 : s₁.heap = h0 := by rw [← hh, Bd.state]; rfl
  have N0 := Fr.nil n0
  have pre0 : ∀ t, Steps p.tables e below (s₁.setTop (mkF m 0 #[.val (.int p0), .val (.int p1), .unset] [])) t → Steps p.tables e below (s₁.setTop (entryFrame m #[(.int p0), (.int p1)] maxLocals)) t := fun t k => castTop (ef_0 m p0 p1) k
  obtain ⟨_, _, ⟨T1, L1, k1, n1⟩, -, X1, ⟨Lc1, hQ1, l1, y1, z1⟩, st1⟩ := Jvm.LawKit.callS X0 hx (y := (⟨"com/example/bitsieve/bitsieve/filter/FilterKindNumberedPinLaw", "agrees", "(I)Z"⟩ : MethodName)) hown (mvT hZ (hw _ (List.mem_of_getElem? (i := 0) rfl))) (mvT hZ (hw _ (List.mem_of_getElem? (i := 1) rfl))) (mvT hZ (hw _ (List.mem_of_getElem? (i := 2) rfl))) (mvT hZ (hw _ (List.mem_of_getElem? (i := 3) rfl))) (by decide) (backOf (W := 0) (rm1 l Z a0 hw [] p0 bV kV u0 u1 h0 n0 Z0 S0 E0 F0 S1 E1 F1 SV EV AV) hZ (hw _ (List.mem_of_getElem? (i := 3) rfl)) (hw _ (List.mem_of_getElem? (i := 2) rfl)) (by decide) (by decide)) (g := (mkF m 7 #[.val (.int p0), .val (.int p1), .val (.int ((p1 &&& (3 : Int32)) - (1 : Int32)))] [(.int p0)])) rfl (by rw [hml]; rfl) (argsL := [(.int p0)]) (rest := []) (lenOf pd_3 rfl) rfl (by show 2 * 0 + _ ≤ _; exact Nat.le_of_eq rfl) (hb hby at_7) (fun _ _ => ⟨rfl, e0, (by decide : 0 + 1 ≤ _), (by decide : 0 + 2 ≤ _)⟩)
  dsimp only [Pt.U, Pt.locs, Pt.cells, Pt.slots] at X1 l1 y1 z1 st1 hQ1
  subst l1 y1 z1
  obtain ⟨rfl, N1q, K1⟩ := hQ1
  have KK1 : Keep h0 T1.heap [] := Keep.trans (Keep.refl h0 []) K1 own_side0
  have Z1 : n0 ≤ T1.heap.size := Nat.le_trans Z0 KK1.1
  have N1 := Fr.app N0 N1q
  have f3 := (own_sta_keep S0 K1)
  have f4 := (E0.keep K1)
  have f5 := (F0.keep K1 (by simp))
  have f6 := (own_sta_keep S1 K1)
  have f7 := (E1.keep K1)
  have f8 := (F1.keep K1 (by simp))
  have f9 := (own_sta_keep SV K1)
  have f10 := (EV.keep K1)
  have f11 := (AV.keep K1 (by simp))
  obtain ⟨_, _, ⟨T2, L2, k2, n2⟩, -, X2, ⟨Lc2, hQ2, l2, y2, z2⟩, st2⟩ := Jvm.LawKit.callS X1 hx (y := (⟨"com/example/bitsieve/bitsieve/filter/FilterKindNumberedPinLaw", "agrees", "(I)Z"⟩ : MethodName)) hown (mvT hZ (hw _ (List.mem_of_getElem? (i := 0) rfl))) (mvT hZ (hw _ (List.mem_of_getElem? (i := 1) rfl))) (mvT hZ (hw _ (List.mem_of_getElem? (i := 2) rfl))) (mvT hZ (hw _ (List.mem_of_getElem? (i := 3) rfl))) (by decide) (backOf (W := 0) (rm1 l Z a0 hw [] ((p1 &&& (3 : Int32)) - (1 : Int32)) bV kV u0 u1 T1.heap n0 Z1 f3 f4 f5 f6 f7 f8 f9 f10 f11) hZ (hw _ (List.mem_of_getElem? (i := 3) rfl)) (hw _ (List.mem_of_getElem? (i := 2) rfl)) (by decide) (by decide)) (g := (mkF m 14 #[.val (.int p0), .val (.int p1), .val (.int ((p1 &&& (3 : Int32)) - (1 : Int32)))] [(.int ((p1 &&& (3 : Int32)) - (1 : Int32)))])) rfl (by rw [hml]; rfl) (argsL := [(.int ((p1 &&& (3 : Int32)) - (1 : Int32)))]) (rest := []) (lenOf pd_3 rfl) rfl (by show 2 * 0 + _ ≤ _; exact Nat.le_of_eq rfl) (hb hby at_14) (fun _ _ => ⟨rfl, rfl, (by decide : 1 + 1 ≤ _), (by decide : 2 + 2 ≤ _)⟩)
  dsimp only [Pt.U, Pt.locs, Pt.cells, Pt.slots] at X2 l2 y2 z2 st2 hQ2
  subst l2 y2 z2
  obtain ⟨rfl, N2q, K2⟩ := hQ2
  have KK2 : Keep h0 T2.heap [] := Keep.trans KK1 K2 own_side0
  have Z2 : n0 ≤ T2.heap.size := Nat.le_trans Z0 KK2.1
  have N2 := Fr.app N1 N2q
  obtain ⟨fs, hr, hrun, hended, hW, hsame⟩ := X2.leave (v := some (.int (1 : Int32))) (fun h => by rw [Bd.returns] at h; cases h)
  refine ⟨_, _, pre0 _ ?_, hrun, hended, _, _, rfl, ?_, ⟨_, rfl⟩, hW, hsame.mono (by decide) (by decide)⟩
  · show Steps p.tables e below (s₁.setTop (mkF m 0 #[.val (.int p0), .val (.int p1), .unset] [])) _
    refine XS.iloadN X0.here hx rfl (hb hby at_0) rfl ?_
    show Steps p.tables e below (s₁.setTop (mkF m 1 #[.val (.int p0), .val (.int p1), .unset] [(.int p1)])) _
    refine XS.iconst X0.here hx rfl (hb hby at_1) ?_
    show Steps p.tables e below (s₁.setTop (mkF m 2 #[.val (.int p0), .val (.int p1), .unset] [(.int (3 : Int32)), (.int p1)])) _
    refine XS.iand X0.here hx rfl (hb hby at_2) rfl ?_
    show Steps p.tables e below (s₁.setTop (mkF m 3 #[.val (.int p0), .val (.int p1), .unset] [(.int (p1 &&& (3 : Int32)))])) _
    refine XS.iconst X0.here hx rfl (hb hby at_3) ?_
    show Steps p.tables e below (s₁.setTop (mkF m 4 #[.val (.int p0), .val (.int p1), .unset] [(.int (1 : Int32)), (.int (p1 &&& (3 : Int32)))])) _
    refine XS.isub X0.here hx rfl (hb hby at_4) rfl ?_
    show Steps p.tables e below (s₁.setTop (mkF m 5 #[.val (.int p0), .val (.int p1), .unset] [(.int ((p1 &&& (3 : Int32)) - (1 : Int32)))])) _
    refine XS.istoreN X0.here hx rfl (hb hby at_5) rfl (l' := #[.val (.int p0), .val (.int p1), .val (.int ((p1 &&& (3 : Int32)) - (1 : Int32)))]) rfl ?_
    show Steps p.tables e below (s₁.setTop (mkF m 6 #[.val (.int p0), .val (.int p1), .val (.int ((p1 &&& (3 : Int32)) - (1 : Int32)))] [])) _
    refine XS.iloadN X0.here hx rfl (hb hby at_6) rfl ?_
    show Steps p.tables e below (s₁.setTop (mkF m 7 #[.val (.int p0), .val (.int p1), .val (.int ((p1 &&& (3 : Int32)) - (1 : Int32)))] [(.int p0)])) _
    refine st1 _ ?_
    show Steps p.tables e below (T1.setTop (mkF m 10 #[.val (.int p0), .val (.int p1), .val (.int ((p1 &&& (3 : Int32)) - (1 : Int32)))] [(.int (1 : Int32))])) _
    refine XS.ifNo X1.here hx rfl (hb hby at_10) rfl ((if0 _ _).trans (feq (show ¬ ((1 : Int32) = (0 : Int32)) from (by decide))).1) ?_
    show Steps p.tables e below (T1.setTop (mkF m 13 #[.val (.int p0), .val (.int p1), .val (.int ((p1 &&& (3 : Int32)) - (1 : Int32)))] [])) _
    refine XS.iloadN X1.here hx rfl (hb hby at_13) rfl ?_
    show Steps p.tables e below (T1.setTop (mkF m 14 #[.val (.int p0), .val (.int p1), .val (.int ((p1 &&& (3 : Int32)) - (1 : Int32)))] [(.int ((p1 &&& (3 : Int32)) - (1 : Int32)))])) _
    refine st2 _ ?_
    show Steps p.tables e below (T2.setTop (mkF m 17 #[.val (.int p0), .val (.int p1), .val (.int ((p1 &&& (3 : Int32)) - (1 : Int32)))] [(.int (1 : Int32))])) _
    refine XS.ifNo X2.here hx rfl (hb hby at_17) rfl ((if0 _ _).trans (feq (show ¬ ((1 : Int32) = (0 : Int32)) from (by decide))).1) ?_
    show Steps p.tables e below (T2.setTop (mkF m 20 #[.val (.int p0), .val (.int p1), .val (.int ((p1 &&& (3 : Int32)) - (1 : Int32)))] [])) _
    refine XS.iconst X2.here hx rfl (hb hby at_20) ?_
    show Steps p.tables e below (T2.setTop (mkF m 21 #[.val (.int p0), .val (.int p1), .val (.int ((p1 &&& (3 : Int32)) - (1 : Int32)))] [(.int (1 : Int32))])) _
    refine XS.goto X2.here hx rfl (pc0 := 21) (pc' := 25) rfl (hb hby at_21) (by decide) (by decide) ?_
    show Steps p.tables e below (T2.setTop (mkF m 25 #[.val (.int p0), .val (.int p1), .val (.int ((p1 &&& (3 : Int32)) - (1 : Int32)))] [(.int (1 : Int32))])) _
    exact retN X2 hx (t := .boolean) Bd.returns (by simp) (hb hby at_25) hr
  · show Q0 h0 n0 _ T2.heap _
    exact ⟨rfl, N2⟩
set_option maxRecDepth 65536 in
set_option maxHeartbeats 40000000 in
theorem comes_1 {Post : Tables → Env → Array Value → State → Outcome → State → Prop} (hpost : ∀ tb e args s v u, (limb_1_1.after args s (.returned v) u = true ∧ limb_1_2.after args s (.returned v) u = true ∧ True) → FrameEnd s (.returned v) u (Jvm.fieldLocs frame_1_writes args s ++ Jvm.arrayLocs frame_1_arrays args s ++ Jvm.staticLocs frame_1_statics s) 16 128 → Post tb e args s (.returned v) u) :
    ArmFor flags0 classFile x code maxLocals ret World_1 tables_1 room_1 Calls_1 rest_1 Pre_1 Post := by
  intro l hfl _ _ p e ha hc hk s m args below hf hA hF happ hP
  obtain ⟨hcalls, hrest, hpre⟩ := hP
  obtain ⟨-, -, -, hnamed, -, -, -, hat⟩ := (Spec.applies_iff hf).mp happ
  obtain ⟨hg, hn⟩ := and_e (Cond.before_iff.mp (show (Jvm.Cond.and given_1 narrow_1).before args s = true from hpre))
  obtain ⟨hcnt, hg1⟩ := and_e hg
  obtain ⟨ha0, hg2⟩ := and_e hg1
  have ha1 := hg2
  obtain ⟨w0, w1, rfl⟩ : ∃ w0 w1 : Value, args = #[w0, w1] := by
    have hs : args.size = 2 := by simpa [Cond.value, given_1] using hcnt
    obtain ⟨L⟩ := args
    match L, hs with
    | [w0, w1], _ => exact ⟨w0, w1, rfl⟩
  have hw := fun d (hd : d ∈ tables_1) => atoms_spec (ws := Jvm.Cond.code x code maxLocals ret :: tables_1) hat d (List.mem_cons_of_mem _ hd)
  have hfit : Fit s := fun {y c} hc i hi => by
    obtain ⟨ha, rfl⟩ := Array.getElem?_eq_some_iff.mp hc
    have q := List.all_eq_true.mp ((Array.all_eq_true_iff_forall_mem.mp hF) _ (Array.getElem_mem ha)) i (List.mem_range.mpr hi)
    simpa [Array.getElem?_eq_getElem hi] using q
  obtain ⟨i0, ei0⟩ := is_v ha0
  obtain rfl : w0 = (.int i0) := Option.some.inj ei0
  obtain ⟨i1, ei1⟩ := is_v ha1
  obtain rfl : w1 = (.int i1) := Option.some.inj ei1
  obtain ⟨hn0, hm0⟩ := and_e hn
  obtain ⟨hn1, hm1⟩ := and_e hm0
  obtain ⟨hn2, hm2⟩ := and_e hm1
  obtain ⟨hn3, hm3⟩ := and_e hm2
  obtain ⟨hn4, hm4⟩ := and_e hm3
  obtain ⟨hn5, hm5⟩ := and_e hm4
  obtain ⟨hn6, hm6⟩ := and_e hm5
  obtain ⟨hn7, hn8⟩ := and_e hm6
  obtain ⟨u0, ev0⟩ := exa_v hn3
  have S0 := Sta.start ev0 (Or.inr ⟨(hw _ (List.mem_of_getElem? (i := 6) rfl)), (hw _ (List.mem_of_getElem? (i := 20) rfl))⟩)
  have E0 := Exa.start ev0 hn3
  have F0 := Fld.start ((fld_at ev0).symm.trans (own_eqInt hn7))
  obtain ⟨u1, ev1⟩ := exa_v hn5
  have S1 := Sta.start ev1 (Or.inr ⟨(hw _ (List.mem_of_getElem? (i := 6) rfl)), (hw _ (List.mem_of_getElem? (i := 21) rfl))⟩)
  have E1 := Exa.start ev1 hn5
  have F1 := Fld.start ((fld_at ev1).symm.trans (own_eqInt hn8))
  obtain ⟨bV, clV, evV, ArV, szV, lnV⟩ := own_arr hn0 hn2
  have SV := Sta.start evV (Or.inr ⟨(hw _ (List.mem_of_getElem? (i := 6) rfl)), (hw _ (List.mem_of_getElem? (i := 12) rfl))⟩)
  have EV := Exa.start evV hn1
  have AV : Arv s s.heap bV clV.cls (.object "com/example/bitsieve/bitsieve/filter/FilterKind") (2 : Int32) [(.ref u0), (.ref u1)] .null := Arv.start hfit ArV szV lnV (by decide) rfl ⟨own_elem evV ArV hn4 ev0 (by decide), own_elem evV ArV hn6 ev1 (by decide), trivial⟩
  obtain ⟨n, o, h1, h2, h3, _, L, rfl, ⟨rfl, N⟩, hq⟩ := rm0 l s _ hw tables_1 i0 i1 bV clV.cls u0 u1 s.heap s.heap.size (Nat.le_refl _) S0 E0 F0 S1 E1 F1 SV EV AV p e ha hc hk s m _ below hf ((Spec.applies_iff_loose hf).mp happ).1 ⟨rfl, State.Warmed39.refl s, rfl⟩ trivial
  refine ⟨n, _, h1, h2, h3, hpost _ _ _ _ _ _ ⟨Cond.after_iff.mpr rfl, Cond.after_iff.mpr (eq_i res_at (Term.int_eval (1)) rfl), trivial⟩ ⟨hq.1, hq.2.1, (hq.2.2.sift fun y hy => Or.inr (N y hy)).mono (by decide) (by decide)⟩⟩
theorem main_1_1 : Claimed_1_1 := comes_1 fun _ _ _ _ _ _ h hF => ⟨h.1, hF⟩
theorem main_1_2 : Claimed_1_2 := comes_1 fun _ _ _ _ _ _ h hF => ⟨h.2.1, hF⟩
end Jvm.Pilot.@@N@@
namespace Jvm.Pilot.@@N@@
open Jvm Jvm.ClassFile Sem Op Lib Jvm.Free Jvm.Stand Jvm.Pilot.@@N@@.Jvm.D
/-! MADE BY PROGRAM (witnessworld.py) out of the Statement's table words and the real class files: 13 classes; the members and pool entries that the words name. The judged class is class 1, her method 1. -/
namespace start1
open Jvm.ClassFile
def u (s : String) : CpInfo := .utf8 (stringToUtf16 s)
/-- a pool by its gaps: so many unusable entries, then the entry; so many at the end -/
def gap : Nat → List CpInfo → List CpInfo
  | 0, r => r
  | n + 1, r => .unusable :: gap n r
def poolList (es : List (Nat × CpInfo)) (last : Nat) : List CpInfo := es.foldr (fun e r => gap e.1 (e.2 :: r)) (gap last [])
def pool (es : List (Nat × CpInfo)) (last : Nat) : Array CpInfo := ⟨poolList es last⟩
def fileOf (pool : Array CpInfo) (this : Nat) (attrs : Array Attribute := #[]) (ms : Array MethodInfo := #[]) (fl : Nat := 33) (sup : Nat := 0) (ifs : Array Nat := #[]) (fds : Array FieldInfo := #[]) : ClassFile where
  minorVersion := 0
  majorVersion := 65
  constantPool := pool
  accessFlags := fl
  thisClass := this
  superClass := sup
  interfaces := ifs
  fields := fds
  methods := ms
  attributes := attrs
def plain (name : String) (sup : Option ClassId) : Class where
  name := name
  kind := .ordinary
  loader := none
  accessFlags := 33
  super := sup
  interfaces := #[]
  cf := none
  fields := #[]
  methods := #[]
  instanceTypes := #[]
  staticTypes := #[]
  resolved := #[]
  callSites := []
  init := .initialized
  statics := none
  mirror := none

def pool0 : Array CpInfo := pool [(5, u "<init>"), (0, u "()V"), (1, .class_ 10), (1, u "java/lang/Object"), (85, u "clone"), (0, u "()Ljava/lang/Object;")] 26

def k0m0 : Method := { name := "<init>", desc := "()V", sig := { parameters := [], returnType := none }, accessFlags := 1, code := none }
def k0m1 : Method := { name := "clone", desc := "()Ljava/lang/Object;", sig := { parameters := [], returnType := some (.object "java/lang/Object") }, accessFlags := 260, code := none }
/-- java/lang/Object -/
def k0 : Class := { plain "java/lang/Object" none with
  accessFlags := 33
  interfaces := #[]
  cf := some (fileOf pool0 8 #[] #[{ accessFlags := 1, nameIndex := 5, descriptorIndex := 6, attributes := #[] }, { accessFlags := 260, nameIndex := 96, descriptorIndex := 97, attributes := #[] }] 33 0 #[] #[])
  fields := #[]
  methods := #[k0m0, k0m1]
  instanceTypes := #[]
  staticTypes := #[]
  resolved := Array.replicate 124 none
  statics := none }

def pool1 : Array CpInfo := pool [(2, .class_ 4), (1, u "java/lang/Object"), (0, u "<init>"), (0, u "()V"), (0, .methodref 8 9), (0, .class_ 10), (0, .nameAndType 11 12), (0, u "com/example/bitsieve/bitsieve/filter/FilterKindNumberedPinLaw"), (0, u "agrees"), (0, u "(I)Z"), (0, .methodref 14 15), (0, .class_ 16), (0, .nameAndType 17 18), (0, u "com/example/bitsieve/bitsieve/filter/FilterKind"), (0, u "numbered"), (0, u "(I)Lcom/example/bitsieve/bitsieve/filter/FilterKind;"), (0, .fieldref 14 20), (0, .nameAndType 21 22), (0, u "BLOOM"), (0, u "Lcom/example/bitsieve/bitsieve/filter/FilterKind;"), (0, .fieldref 14 24), (0, .nameAndType 25 22), (0, u "COUNTING"), (0, .methodref 14 27), (0, .nameAndType 28 29), (0, u "number"), (0, u "()I"), (2, u "law"), (0, u "(II)Z")] 3

def k1m0 : Method := { name := "<init>", desc := "()V", sig := { parameters := [], returnType := none }, accessFlags := 1, code := none }
def k1c1 : Code := { maxStack := 2, maxLocals := 3, code := code, exceptionTable := #[], attributes := #[] }
def k1m1 : Method := { name := "law", desc := "(II)Z", sig := { parameters := [.int, .int], returnType := some .boolean }, accessFlags := 9, code := some k1c1 }
def k1c2 : Code := { maxStack := 2, maxLocals := 3, code := method_3_code, exceptionTable := #[], attributes := #[] }
def k1m2 : Method := { name := "agrees", desc := "(I)Z", sig := { parameters := [.int], returnType := some .boolean }, accessFlags := 10, code := some k1c2 }
/-- com/example/bitsieve/bitsieve/filter/FilterKindNumberedPinLaw -/
def k1 : Class := { plain "com/example/bitsieve/bitsieve/filter/FilterKindNumberedPinLaw" (some 0) with
  accessFlags := 49
  interfaces := #[]
  cf := some (fileOf pool1 8 #[] #[{ accessFlags := 1, nameIndex := 5, descriptorIndex := 6, attributes := #[] }, { accessFlags := 9, nameIndex := 32, descriptorIndex := 33, attributes := #[] }, { accessFlags := 10, nameIndex := 11, descriptorIndex := 12, attributes := #[] }] 49 2 #[] #[])
  fields := #[]
  methods := #[k1m0, k1m1, k1m2]
  instanceTypes := #[]
  staticTypes := #[]
  resolved := Array.replicate 37 none
  statics := none }

def pool2 : Array CpInfo := pool [(1, .class_ 2), (0, u "java/lang/constant/Constable"), (0, .class_ 4), (0, u "java/lang/Object")] 6

/-- java/lang/constant/Constable -/
def k2 : Class := { plain "java/lang/constant/Constable" (some 0) with
  accessFlags := 1537
  interfaces := #[]
  cf := some (fileOf pool2 1 #[] #[] 1537 3 #[] #[])
  fields := #[]
  methods := #[]
  instanceTypes := #[]
  staticTypes := #[]
  resolved := Array.replicate 11 none
  statics := none }

def pool3 : Array CpInfo := pool [(1, .class_ 2), (0, u "java/lang/Comparable"), (0, .class_ 4), (0, u "java/lang/Object")] 7

/-- java/lang/Comparable -/
def k3 : Class := { plain "java/lang/Comparable" (some 0) with
  accessFlags := 1537
  interfaces := #[]
  cf := some (fileOf pool3 1 #[] #[] 1537 3 #[] #[])
  fields := #[]
  methods := #[]
  instanceTypes := #[]
  staticTypes := #[]
  resolved := Array.replicate 12 none
  statics := none }

def pool4 : Array CpInfo := pool [(1, .class_ 2), (0, u "java/io/Serializable"), (0, .class_ 4), (0, u "java/lang/Object")] 2

/-- java/io/Serializable -/
def k4 : Class := { plain "java/io/Serializable" (some 0) with
  accessFlags := 1537
  interfaces := #[]
  cf := some (fileOf pool4 1 #[] #[] 1537 3 #[] #[])
  fields := #[]
  methods := #[]
  instanceTypes := #[]
  staticTypes := #[]
  resolved := Array.replicate 7 none
  statics := none }

def pool5 : Array CpInfo := pool [(2, .class_ 4), (1, u "java/lang/Enum"), (0, u "name"), (0, u "Ljava/lang/String;"), (2, u "ordinal"), (0, u "I"), (1, .class_ 14), (1, u "java/lang/Object"), (4, u "hash"), (86, .class_ 108), (1, u "java/lang/Enum$EnumDesc"), (2, .class_ 112), (0, u "java/lang/constant/Constable"), (0, .class_ 114), (0, u "java/lang/Comparable"), (0, .class_ 116), (0, u "java/io/Serializable")] 87

/-- java/lang/Enum -/
def k5 : Class := { plain "java/lang/Enum" (some 0) with
  accessFlags := 1057
  interfaces := #[2, 3, 4]
  cf := some (fileOf pool5 2 #[.nestMembers #[106]] #[] 1057 12 #[111, 113, 115] #[{ accessFlags := 18, nameIndex := 5, descriptorIndex := 6, attributes := #[] }, { accessFlags := 18, nameIndex := 9, descriptorIndex := 10, attributes := #[] }, { accessFlags := 2, nameIndex := 19, descriptorIndex := 10, attributes := #[] }])
  fields := #[{ name := "name", type := (.object "java/lang/String"), accessFlags := 18, slot := 0, constantValue := 0 }, { name := "ordinal", type := .int, accessFlags := 18, slot := 1, constantValue := 0 }, { name := "hash", type := .int, accessFlags := 2, slot := 2, constantValue := 0 }]
  methods := #[]
  instanceTypes := #[(.object "java/lang/String"), .int, .int]
  staticTypes := #[]
  resolved := Array.replicate 204 none
  statics := none }

def pool6 : Array CpInfo := pool [(1, .class_ 2), (0, u "com/example/bitsieve/bitsieve/filter/FilterKind"), (2, u "BLOOM"), (0, u "Lcom/example/bitsieve/bitsieve/filter/FilterKind;"), (2, u "COUNTING"), (0, .fieldref 1 11), (0, .nameAndType 12 13), (0, u "$VALUES"), (0, u "[Lcom/example/bitsieve/bitsieve/filter/FilterKind;"), (0, .methodref 15 16), (0, .class_ 13), (0, .nameAndType 17 18), (0, u "clone"), (0, u "()Ljava/lang/Object;"), (1, .class_ 22), (1, u "java/lang/Enum"), (6, .fieldref 1 30), (0, .nameAndType 31 32), (0, u "number"), (0, u "I"), (2, u "label"), (0, u "Ljava/lang/String;"), (2, u "positionName"), (2, u "bitsPerPosition"), (0, .methodref 1 44), (0, .nameAndType 45 46), (0, u "values"), (0, u "()[Lcom/example/bitsieve/bitsieve/filter/FilterKind;"), (33, u "()I"), (57, u "numbered"), (0, u "(I)Lcom/example/bitsieve/bitsieve/filter/FilterKind;")] 26

def k6c0 : Code := { maxStack := 1, maxLocals := 0, code := prog_18_method_1_code, exceptionTable := #[], attributes := #[] }
def k6m0 : Method := { name := "values", desc := "()[Lcom/example/bitsieve/bitsieve/filter/FilterKind;", sig := { parameters := [], returnType := some (.array (.object "com/example/bitsieve/bitsieve/filter/FilterKind")) }, accessFlags := 9, code := some k6c0 }
def k6c1 : Code := { maxStack := 2, maxLocals := 6, code := prog_18_method_4_code, exceptionTable := #[], attributes := #[] }
def k6m1 : Method := { name := "numbered", desc := "(I)Lcom/example/bitsieve/bitsieve/filter/FilterKind;", sig := { parameters := [.int], returnType := some (.object "com/example/bitsieve/bitsieve/filter/FilterKind") }, accessFlags := 8, code := some k6c1 }
def k6c2 : Code := { maxStack := 1, maxLocals := 1, code := prog_18_method_5_code, exceptionTable := #[], attributes := #[] }
def k6m2 : Method := { name := "number", desc := "()I", sig := { parameters := [], returnType := some .int }, accessFlags := 0, code := some k6c2 }
/-- com/example/bitsieve/bitsieve/filter/FilterKind -/
def k6 : Class := { plain "com/example/bitsieve/bitsieve/filter/FilterKind" (some 5) with
  accessFlags := 16433
  interfaces := #[]
  cf := some (fileOf pool6 1 #[] #[{ accessFlags := 9, nameIndex := 45, descriptorIndex := 46, attributes := #[] }, { accessFlags := 8, nameIndex := 138, descriptorIndex := 139, attributes := #[] }, { accessFlags := 0, nameIndex := 31, descriptorIndex := 80, attributes := #[] }] 16433 20 #[] #[{ accessFlags := 16409, nameIndex := 5, descriptorIndex := 6, attributes := #[] }, { accessFlags := 16409, nameIndex := 9, descriptorIndex := 6, attributes := #[] }, { accessFlags := 18, nameIndex := 31, descriptorIndex := 32, attributes := #[] }, { accessFlags := 18, nameIndex := 35, descriptorIndex := 36, attributes := #[] }, { accessFlags := 18, nameIndex := 39, descriptorIndex := 36, attributes := #[] }, { accessFlags := 18, nameIndex := 42, descriptorIndex := 32, attributes := #[] }, { accessFlags := 4122, nameIndex := 12, descriptorIndex := 13, attributes := #[] }])
  fields := #[{ name := "BLOOM", type := (.object "com/example/bitsieve/bitsieve/filter/FilterKind"), accessFlags := 16409, slot := 0, constantValue := 0 }, { name := "COUNTING", type := (.object "com/example/bitsieve/bitsieve/filter/FilterKind"), accessFlags := 16409, slot := 1, constantValue := 0 }, { name := "number", type := .int, accessFlags := 18, slot := 3, constantValue := 0 }, { name := "label", type := (.object "java/lang/String"), accessFlags := 18, slot := 4, constantValue := 0 }, { name := "positionName", type := (.object "java/lang/String"), accessFlags := 18, slot := 5, constantValue := 0 }, { name := "bitsPerPosition", type := .int, accessFlags := 18, slot := 6, constantValue := 0 }, { name := "$VALUES", type := (.array (.object "com/example/bitsieve/bitsieve/filter/FilterKind")), accessFlags := 4122, slot := 2, constantValue := 0 }]
  methods := #[k6m0, k6m1, k6m2]
  instanceTypes := #[(.object "java/lang/String"), .int, .int, .int, (.object "java/lang/String"), (.object "java/lang/String"), .int]
  staticTypes := #[(.object "com/example/bitsieve/bitsieve/filter/FilterKind"), (.object "com/example/bitsieve/bitsieve/filter/FilterKind"), (.array (.object "com/example/bitsieve/bitsieve/filter/FilterKind"))]
  resolved := Array.replicate 166 none
  statics := some 0 }

def pool7 : Array CpInfo := pool [(1, .class_ 2), (0, u "java/lang/Cloneable"), (0, .class_ 4), (0, u "java/lang/Object")] 2

/-- java/lang/Cloneable -/
def k7 : Class := { plain "java/lang/Cloneable" (some 0) with
  accessFlags := 1537
  interfaces := #[]
  cf := some (fileOf pool7 1 #[] #[] 1537 3 #[] #[])
  fields := #[]
  methods := #[]
  instanceTypes := #[]
  staticTypes := #[]
  resolved := Array.replicate 7 none
  statics := none }

/-- the primitive byte -/
def k8 : Class := { plain "byte" none with kind := .primitive 'B', accessFlags := 0x411 }
/-- [B -/
def k9 : Class := { plain "[B" (some 0) with kind := .array 8 .byte, interfaces := #[7, 4], accessFlags := 1041 }

/-- the primitive int -/
def k10 : Class := { plain "int" none with kind := .primitive 'I', accessFlags := 0x411 }
/-- [I -/
def k11 : Class := { plain "[I" (some 0) with kind := .array 10 .int, interfaces := #[7, 4], accessFlags := 1041 }

/-- [Lcom/example/bitsieve/bitsieve/filter/FilterKind; -/
def k12 : Class := { plain "[Lcom/example/bitsieve/bitsieve/filter/FilterKind;" (some 0) with kind := .array 6 (.object "com/example/bitsieve/bitsieve/filter/FilterKind"), interfaces := #[7, 4], accessFlags := 1041 }

def heap : Heap := #[{ cls := 6, slots := #[.ref 2, .ref 3, .ref 1], vm := .statics 6 },
  { cls := 12, slots := #[.ref 2, .ref 3], vm := .none },
  { cls := 6, slots := #[.null, .int 0, .int 0, .int 0, .null, .null, .int 0], vm := .none },
  { cls := 6, slots := #[.null, .int 0, .int 0, .int 1, .null, .null, .int 0], vm := .none }]
def classes : Array Class := #[k0, k1, k2, k3, k4, k5, k6, k7, k8, k9, k10, k11, k12]
def interned : List (Array UInt16 × Addr) := []
def slotsUsed : Nat := 19
def theMethod : MethodId := ⟨1, 1⟩
def args0 : Array Value := #[.int 5, .int 7]
def aboutOver (below : List Frame) : State where
  vm := { classes := classes, interned := interned.toArray }
  heap := heap
  slotsUsed := slotsUsed
  threads := #[{ frames := .invoking theMethod args0 :: below }]
def below0 : List Frame := [.native { method := ⟨0, 0⟩, args := #[] }]
def about1 : State := aboutOver below0
def p0 : Program := .bare "" "" ""
def e0 : Env := launch0.env 0 0 0
theorem w_frames : about1.frames = Frame.invoking theMethod args0 :: below0 := rfl
set_option maxRecDepth 65536 in
theorem w_args : argsFit about1.vm theMethod args0 = true := by decide +kernel
set_option maxRecDepth 65536 in
theorem w_heap : heapFits about1 = true := by decide +kernel
set_option maxRecDepth 65536 in
theorem w_runnable : about1.curStatus? = some .runnable := by decide +kernel
set_option maxRecDepth 65536 in
theorem w_alone : about1.alone = true := by decide +kernel
set_option maxRecDepth 65536 in
theorem w_named : about1.methodNamed? x = some theMethod := by decide +kernel
set_option maxRecDepth 65536 in
theorem w_hears : about1.hears theMethod below0 = true := by decide +kernel
set_option maxRecDepth 65536 in
theorem w_ripe : about1.ripe theMethod args0 below0 = true := by decide +kernel
theorem w_running : about1.status = .running := rfl
set_option maxRecDepth 65536 in
theorem w_room : about1.hasRoom e0.platform room_1 = true :=
  launch0.hasRoom_least _ room_1 (by decide +kernel) (by decide +kernel) (by decide +kernel) (by decide +kernel) (by decide +kernel) (by decide +kernel)
theorem allAtoms_all (ts : List Jvm.Cond) (a : Array Jvm.Value) (st : Jvm.State) : (allAtoms ts).before a st = ts.all (fun c => c.before a st) := by
  induction ts with
  | nil => rfl
  | cons c t ih =>
    show (Jvm.Cond.and c (allAtoms t)).before a st = _
    rw [Jvm.Cond.before_and, ih, List.all_cons]
def words1 : List Jvm.Cond := Jvm.Cond.code x code maxLocals ret :: tables_1
/-- a 'code' word, met by the world's own term for the bytes: nothing is compared byte by byte -/
theorem code_word {y : MethodName} {bytes : ByteArray} {mx : Nat} {rt : Option FieldType} {a : Array Value} {s : State} {m : MethodId} {meth : Method} {c : Code} (h1 : s.methodNamed? y = some m) (h2 : s.vm.method? m = some meth) (h3 : meth.code = some c) (h4 : c.code = bytes)
    (h5 : (c.maxLocals == mx && c.exceptionTable.isEmpty && decide (c.maxStack ≤ mostOperands) && decide (meth.sig.returnType = rt) && !meth.locks && decide (parseMethodDescriptor y.desc = some meth.sig)) = true) : (Jvm.Cond.code y bytes mx rt).before a s = true := by
  simp only [Bool.and_eq_true, beq_iff_eq, Bool.not_eq_true', decide_eq_true_eq] at h5
  obtain ⟨⟨⟨⟨⟨g1, g2⟩, g3⟩, g4⟩, g5⟩, g6⟩ := h5
  simp [Cond.before, Cond.holds, Cond.value, h1, h2, h3, h4, g1, g2, g3, g4, g5, g6]
def isCode : Jvm.Cond → Bool
  | .code _ _ _ _ => true
  | _ => false
theorem all_split {L : List Jvm.Cond} {P : Jvm.Cond → Bool} (h1 : L.all (fun c => isCode c || P c) = true) (h2 : ∀ c ∈ L.filter isCode, P c = true) : L.all P = true := by
  refine List.all_eq_true.mpr fun c hc => ?_
  have h := List.all_eq_true.mp h1 c hc
  rcases Bool.eq_false_or_eq_true (isCode c) with hi | hi
  · exact h2 c (List.mem_filter.mpr ⟨hc, hi⟩)
  · simpa [hi] using h
set_option maxRecDepth 65536 in
theorem w_c0 : (Jvm.Cond.code x code maxLocals ret).before args0 about1 = true := code_word (m := ⟨1, 1⟩) (meth := k1m1) (c := k1c1) (by decide +kernel) rfl rfl rfl (by decide +kernel)
set_option maxRecDepth 65536 in
theorem w_c1 : (Jvm.Cond.code ({ cls := "com/example/bitsieve/bitsieve/filter/FilterKindNumberedPinLaw", name := "agrees", desc := "(I)Z" } : Jvm.MethodName) method_3_code (3 : Nat) (Option.some Jvm.ClassFile.FieldType.boolean)).before args0 about1 = true := code_word (m := ⟨1, 2⟩) (meth := k1m2) (c := k1c2) (by decide +kernel) rfl rfl rfl (by decide +kernel)
set_option maxRecDepth 65536 in
theorem w_c2 : (Jvm.Cond.code ({ cls := "com/example/bitsieve/bitsieve/filter/FilterKind", name := "numbered", desc := "(I)Lcom/example/bitsieve/bitsieve/filter/FilterKind;" } : Jvm.MethodName) prog_18_method_4_code (6 : Nat) (Option.some (Jvm.ClassFile.FieldType.object "com/example/bitsieve/bitsieve/filter/FilterKind"))).before args0 about1 = true := code_word (m := ⟨6, 1⟩) (meth := k6m1) (c := k6c1) (by decide +kernel) rfl rfl rfl (by decide +kernel)
set_option maxRecDepth 65536 in
theorem w_c3 : (Jvm.Cond.code ({ cls := "com/example/bitsieve/bitsieve/filter/FilterKind", name := "values", desc := "()[Lcom/example/bitsieve/bitsieve/filter/FilterKind;" } : Jvm.MethodName) prog_18_method_1_code (0 : Nat) (Option.some (Jvm.ClassFile.FieldType.array (Jvm.ClassFile.FieldType.object "com/example/bitsieve/bitsieve/filter/FilterKind")))).before args0 about1 = true := code_word (m := ⟨6, 0⟩) (meth := k6m0) (c := k6c0) (by decide +kernel) rfl rfl rfl (by decide +kernel)
set_option maxRecDepth 65536 in
theorem w_c4 : (Jvm.Cond.code ({ cls := "com/example/bitsieve/bitsieve/filter/FilterKind", name := "number", desc := "()I" } : Jvm.MethodName) prog_18_method_5_code (1 : Nat) (Option.some Jvm.ClassFile.FieldType.int)).before args0 about1 = true := code_word (m := ⟨6, 2⟩) (meth := k6m2) (c := k6c2) (by decide +kernel) rfl rfl rfl (by decide +kernel)
def codes1 : List Jvm.Cond := [Jvm.Cond.code x code maxLocals ret, Jvm.Cond.code ({ cls := "com/example/bitsieve/bitsieve/filter/FilterKindNumberedPinLaw", name := "agrees", desc := "(I)Z" } : Jvm.MethodName) method_3_code (3 : Nat) (Option.some Jvm.ClassFile.FieldType.boolean), Jvm.Cond.code ({ cls := "com/example/bitsieve/bitsieve/filter/FilterKind", name := "numbered", desc := "(I)Lcom/example/bitsieve/bitsieve/filter/FilterKind;" } : Jvm.MethodName) prog_18_method_4_code (6 : Nat) (Option.some (Jvm.ClassFile.FieldType.object "com/example/bitsieve/bitsieve/filter/FilterKind")), Jvm.Cond.code ({ cls := "com/example/bitsieve/bitsieve/filter/FilterKind", name := "values", desc := "()[Lcom/example/bitsieve/bitsieve/filter/FilterKind;" } : Jvm.MethodName) prog_18_method_1_code (0 : Nat) (Option.some (Jvm.ClassFile.FieldType.array (Jvm.ClassFile.FieldType.object "com/example/bitsieve/bitsieve/filter/FilterKind"))), Jvm.Cond.code ({ cls := "com/example/bitsieve/bitsieve/filter/FilterKind", name := "number", desc := "()I" } : Jvm.MethodName) prog_18_method_5_code (1 : Nat) (Option.some Jvm.ClassFile.FieldType.int)]
set_option maxRecDepth 65536 in
theorem codes_eq : words1.filter isCode = codes1 := rfl
theorem w_codes : ∀ c ∈ words1.filter isCode, c.before args0 about1 = true := by
  rw [codes_eq]
  intro c hc
  simp only [codes1, List.mem_cons, List.not_mem_nil, or_false] at hc
  rcases hc with rfl | rfl | rfl | rfl | rfl
  · exact w_c0
  · exact w_c1
  · exact w_c2
  · exact w_c3
  · exact w_c4
set_option maxRecDepth 65536 in
theorem w_t1 : (words1.take 24).all (fun c => isCode c || c.before args0 about1) = true := by decide +kernel
set_option maxRecDepth 65536 in
theorem w_t2 : (words1.drop 24).all (fun c => isCode c || c.before args0 about1) = true := by decide +kernel
theorem w_tables : (allAtoms (Jvm.Cond.code x code maxLocals ret :: tables_1)).before args0 about1 = true := by
  rw [allAtoms_all]
  show words1.all (fun c => c.before args0 about1) = true
  refine all_split ?_ w_codes
  rw [← List.take_append_drop 24 words1, List.all_append, w_t1, w_t2]
  rfl
set_option maxRecDepth 65536 in
theorem w_case : (Jvm.Cond.and given_1 narrow_1).before args0 about1 = true := by decide +kernel
theorem w_applies : (headSpec (Jvm.Cond.code x code maxLocals ret :: tables_1) room_1).applies x e0.platform about1 = true :=
  (Spec.applies_iff w_frames).mpr ⟨w_running, w_runnable, w_alone, w_named, w_hears, w_ripe, w_room, w_tables⟩
theorem atStart : AtStart classFile x code maxLocals ret World_1 tables_1 room_1 Calls_1 rest_1 Pre_1 launch0 p0 e0 about1 theMethod args0 below0 :=
  ⟨lists_1, trivial, launch0.admits_env _ _ _, launch0.least_env, fairChoices_fair.cas, fairChoices_fair.clock, w_frames, w_args, w_heap, w_applies, trivial, trivial, w_case⟩
end start1
theorem witness_1 : WitnessClaimed_1 := ⟨start1.p0, start1.e0, start1.about1, start1.theMethod, start1.args0, start1.below0, start1.atStart⟩
end Jvm.Pilot.@@N@@
