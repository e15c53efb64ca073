import JvmDerived
import JvmDerived.Pilot.@@N@@Statement
import JvmDerived.Pilot.@@N@@Code
set_option linter.unusedVariables false
set_option linter.unusedSimpArgs false
namespace Jvm.RoadKit
open Sem ClassFile Op Lib Jvm.Stand Jvm.Free Jvm.LawKit
section New
variable {p : Program} {l : Launch} {e : Env} {R : Room} {s : State} {m : MethodId} {args : Array Value} {below : List Frame} {meth : Method} {c : Code} {T : State} {locs : List Loc} {cells slots : Nat}
theorem retI (X : Stand p l e R s m args below meth c T locs cells slots) (hx : p.tables.exec = Jvm.exec) {pc : Nat} {Ls : Array Slot} {z : Int32} {rest : List Value} (hret : meth.sig.returnType = some .int) (hd : decode c.code pc = .ok (.ireturn, 1)) {fs : List Frame}
    (hl : ∀ (f : JFrame) (acts : List Action), f.method = m → f.locked = none → f.entered = [] → (doReturn e (T.setTop f) acts (some (.int z))).1 = T.setFrames fs) : Steps p.tables e below (T.setTop (mkF m pc Ls (.int z :: rest))) (T.setFrames fs) := by
  have hm' : T.vm.method? m = some meth := X.method'
  have hn : narrow .int (.int z) = .int z := rfl
  show Steps p.tables e below (T.setTop { method := m, pc := pc, locals := Ls, stack := _ :: rest, locked := none }) _
  jvm_step X.here [X.here.top, hx, hd, hm', hret, hn]
  first | (intro acts; rw [hl _ acts rfl rfl rfl]) | rw [hl _ _ rfl rfl rfl]
  exact Steps.refl _
end New
end Jvm.RoadKit
namespace Jvm.Pilot.@@N@@
open Jvm Jvm.ClassFile Sem Op Lib Jvm.Free Jvm.Stand Jvm.LawKit Jvm.RoadKit Bundle Jvm.Pilot.@@N@@.Jvm.D
def ownD : Option Jvm.Cond → String
  | some (Jvm.Cond.laysStatic _ _ d) => d
  | _ => ""
def DD : String := ownD tables_1[3]?
theorem own_eqInt {a : Term} {k : Int32} {args : Array Value} {first s : State} {o : Option Outcome} {idx : List Nat} (h : (Jvm.Cond.eq a (Term.int k)).value args first o s idx = some true) : a.eval args first o idx s = some (.int k) := by
  simp only [Cond.value, Term.eval] at h
  cases ht : a.eval args first o idx s with
  | none => simp [ht] at h
  | some x => cases x <;> simp [ht] at h ⊢; exact h
theorem own_enum {Z : State} {args : Array Value} {C f d : String} {k : Int32} (hE : (Jvm.Cond.exactly (Term.static C f d) C).value args Z none Z [] = some true) (hO : (Jvm.Cond.eq (Term.field (Term.static C f d) "java/lang/Enum" "ordinal" "I") (Term.int k)).value args Z none Z [] = some true)
    (hi : (Jvm.Cond.initialized C).before args Z = true) (hl : (Jvm.Cond.laysStatic C f d).before args Z = true) : ∃ a, Sta Z Z.heap C f d (.ref a) ∧ Exa Z Z.heap a C ∧ Fld Z Z.heap a "java/lang/Enum" "ordinal" "I" (.int k) := by
  obtain ⟨a, ev⟩ := exa_v hE
  exact ⟨a, Sta.start ev (Or.inr ⟨hi, hl⟩), Exa.start ev hE, Fld.start ((fld_at ev).symm.trans (own_eqInt hO))⟩
def leftV (o a b : Addr) (p : Int32) : Int32 := if o = a then p else if o = b then p else (p - (1 : Int32))
def ch1 (w : Int32) : Int32 := (nar .char ((w &&& (255 : Int32)).toUInt32.toUInt16.toUInt32.toInt32))
def ch2 (w : Int32) : Int32 := (nar .char (ch1 w))
theorem dPC_0 : decode jdk_41_method_11_code 0 = .ok (.iload_n 0, 1) := by decide +kernel
theorem dPC_1 : decode jdk_41_method_11_code 1 = .ok (.ifCond .lt 8, 3) := by decide +kernel
theorem dPC_4 : decode jdk_41_method_11_code 4 = .ok (.iload_n 0, 1) := by decide +kernel
theorem dPC_5 : decode jdk_41_method_11_code 5 = .ok (.iload_n 1, 1) := by decide +kernel
theorem dPC_6 : decode jdk_41_method_11_code 6 = .ok (.if_icmp .lt 10, 3) := by decide +kernel
theorem dPC_16 : decode jdk_41_method_11_code 16 = .ok (.iload_n 0, 1) := by decide +kernel
theorem dPC_17 : decode jdk_41_method_11_code 17 = .ok (.ireturn, 1) := by decide +kernel
theorem pn_0 : plainName "jdk/internal/util/Preconditions" = true := by first | (simp [plainName, overriddenIn]; done) | decide +kernel
theorem ef_PC (m : MethodId) (p0 : Int32) (p1 : Int32) (vG : Value) (hvG : vG.isRef = true) : entryFrame m #[(.int p0), (.int p1), vG] 3 = mkF m 0 #[.val (.int p0), .val (.int p1), .val vG] [] := by rcases ref_cases hvG with rfl | ⟨_, rfl⟩ <;> first | (simp [entryFrame, mkF, argsToLocals, Value.category]; done) | rfl
def QPC (p0 : Int32) (h0 : Heap) (n0 : Nat) (v : Option Value) (h : Heap) (L : List Loc) : Prop := v = some (.int p0) ∧ Fr n0 L ∧ h = h0
set_option maxRecDepth 65536 in
set_option maxHeartbeats 40000000 in
theorem rmPC (l : Launch) (Z : State) (a0 : Array Value) (hw : ∀ d ∈ tables_1, d.before a0 Z = true) (ws : List Jvm.Cond) (p0 p1 : Int32) (vG : Value) (h0 : Heap) (n0 : Nat) (Z0 : n0 ≤ h0.size) (hp0 : ¬ (p0 < (0 : Int32))) (hlt : p0 < p1) (hvG : vG.isRef = true) :
    MetFree l (⟨"jdk/internal/util/Preconditions", "checkIndex", "(IILjava/util/function/BiFunction;)I"⟩ : MethodName) (head1 (Jvm.Cond.code (⟨"jdk/internal/util/Preconditions", "checkIndex", "(IILjava/util/function/BiFunction;)I"⟩ : MethodName) jdk_41_method_11_code 3 (some .int) :: ws) ({ frames := 0, cells := 0, slots := 0, locals := 0 } : Room)) (fun a U => a = #[(.int p0), (.int p1), vG] ∧ Z.Warmed39 U.vm ∧ U.heap = h0) (fun _ _ _ _ _ => True) (fun _ U o U' => ∃ v L, o = .returned v ∧ QPC p0 h0 n0 v U'.heap L ∧ FrameEnd U o U' L ({ frames := 0, cells := 0, slots := 0, locals := 0 } : Room).cells ({ frames := 0, cells := 0, slots := 0, locals := 0 } : Room).slots) := by
  refine MetFree.of_bodySF (plainFor_of_name pn_0) hisR ?_
  intro p e s m args below meth c s₁ Bd hml0 hP hK
  obtain ⟨rfl, hZ, hh⟩ := hP
  have hx := Bd.exec
  have hby := Bd.bytes
  have hml : c.maxLocals = 3 := hml0
  have hown : s.vm.findClass "jdk/internal/util/Preconditions" = some m.cls := findClass_of_methodNamed Bd.named
  have hnm := (name_of_methodNamed Bd.named Bd.method).1
  have X0 : Stand p l e ({ frames := 0, cells := 0, slots := 0, locals := 0 } : Room) s m #[(.int p0), (.int p1), vG] below meth c s₁ [] 0 0 := Stand.of_body Bd
  have e0 : s₁.heap = h0 := by rw [← hh, Bd.state]; rfl
  have N0 := Fr.nil n0
  have pre0 : ∀ t, Steps p.tables e below (s₁.setTop (mkF m 0 #[.val (.int p0), .val (.int p1), .val vG] [])) t → Steps p.tables e below (s₁.setTop (entryFrame m #[(.int p0), (.int p1), vG] 3)) t := fun t k => castTop (ef_PC m p0 p1 vG hvG) k
  obtain ⟨fs, hr, hrun, hended, hW, hsame⟩ := X0.leave (v := some (.int p0)) (fun h => by rw [Bd.returns] at h; cases h)
  refine ⟨_, _, pre0 _ ?_, hrun, hended, _, _, rfl, ?_, ⟨_, rfl⟩, hW, hsame.mono (by decide) (by decide)⟩
  · show Steps p.tables e below (s₁.setTop (mkF m 0 #[.val (.int p0), .val (.int p1), .val vG] [])) _
    refine XS.iloadN X0.here hx rfl (hb hby dPC_0) rfl ?_
    show Steps p.tables e below (s₁.setTop (mkF m 1 #[.val (.int p0), .val (.int p1), .val vG] [(.int p0)])) _
    refine XS.ifNo X0.here hx rfl (hb hby dPC_1) rfl ((if0 _ _).trans (flt (show ¬ (p0 < (0 : Int32)) from hp0)).1) ?_
    show Steps p.tables e below (s₁.setTop (mkF m 4 #[.val (.int p0), .val (.int p1), .val vG] [])) _
    refine XS.iloadN X0.here hx rfl (hb hby dPC_4) rfl ?_
    show Steps p.tables e below (s₁.setTop (mkF m 5 #[.val (.int p0), .val (.int p1), .val vG] [(.int p0)])) _
    refine XS.iloadN X0.here hx rfl (hb hby dPC_5) rfl ?_
    show Steps p.tables e below (s₁.setTop (mkF m 6 #[.val (.int p0), .val (.int p1), .val vG] [(.int p1), (.int p0)])) _
    refine XS.icmpYes X0.here hx rfl (pc0 := 6) (pc' := 16) rfl (hb hby dPC_6) rfl (tlt (show p0 < p1 from hlt)).1 (by decide) (by decide) ?_
    show Steps p.tables e below (s₁.setTop (mkF m 16 #[.val (.int p0), .val (.int p1), .val vG] [])) _
    refine XS.iloadN X0.here hx rfl (hb hby dPC_16) rfl ?_
    show Steps p.tables e below (s₁.setTop (mkF m 17 #[.val (.int p0), .val (.int p1), .val vG] [(.int p0)])) _
    exact retI X0 hx Bd.returns (hb hby dPC_17) hr
  · show QPC p0 h0 n0 _ s₁.heap _
    rw [e0]
    exact ⟨rfl, N0, rfl⟩
theorem dSCI_0 : decode jdk_42_method_155_code 0 = .ok (.iload_n 0, 1) := by decide +kernel
theorem dSCI_1 : decode jdk_42_method_155_code 1 = .ok (.iload_n 1, 1) := by decide +kernel
theorem dSCI_2 : decode jdk_42_method_155_code 2 = .ok (.getstatic 1053, 3) := by decide +kernel
theorem dSCI_5 : decode jdk_42_method_155_code 5 = .ok (.invokestatic 1059, 3) := by decide +kernel
theorem dSCI_8 : decode jdk_42_method_155_code 8 = .ok (.pop, 1) := by decide +kernel
theorem dSCI_9 : decode jdk_42_method_155_code 9 = .ok (.return_, 1) := by decide +kernel
theorem pn_1 : plainName "java/lang/String" = true := by first | (simp [plainName, overriddenIn]; done) | decide +kernel
theorem pd_0 : parseMethodDescriptor "(IILjava/util/function/BiFunction;)I" = some ⟨[.int, .int, (.object "java/util/function/BiFunction")], some .int⟩ := by decide +kernel
theorem ef_SCI (m : MethodId) (p0 : Int32) (p1 : Int32) : entryFrame m #[(.int p0), (.int p1)] 2 = mkF m 0 #[.val (.int p0), .val (.int p1)] [] := by first | (simp [entryFrame, mkF, argsToLocals, Value.category]; done) | rfl
def QSCI  (h0 : Heap) (n0 : Nat) (v : Option Value) (h : Heap) (L : List Loc) : Prop := v = none ∧ Fr n0 L ∧ h = h0
set_option maxRecDepth 65536 in
set_option maxHeartbeats 40000000 in
theorem rmSCI (l : Launch) (Z : State) (a0 : Array Value) (hw : ∀ d ∈ tables_1, d.before a0 Z = true) (ws : List Jvm.Cond) (p0 p1 : Int32) (vG : Value) (h0 : Heap) (n0 : Nat) (Z0 : n0 ≤ h0.size) (SG : Sta Z h0 "jdk/internal/util/Preconditions" "SIOOBE_FORMATTER" "Ljava/util/function/BiFunction;" vG) (hvG : vG.isRef = true) (hp0 : ¬ (p0 < (0 : Int32))) (hlt : p0 < p1) :
    MetFree l (⟨"java/lang/String", "checkIndex", "(II)V"⟩ : MethodName) (head1 (Jvm.Cond.code (⟨"java/lang/String", "checkIndex", "(II)V"⟩ : MethodName) jdk_42_method_155_code 2 none :: ws) ({ frames := 1, cells := 0, slots := 0, locals := 14 } : Room)) (fun a U => a = #[(.int p0), (.int p1)] ∧ Z.Warmed39 U.vm ∧ U.heap = h0) (fun _ _ _ _ _ => True) (fun _ U o U' => ∃ v L, o = .returned v ∧ QSCI h0 n0 v U'.heap L ∧ FrameEnd U o U' L ({ frames := 1, cells := 0, slots := 0, locals := 14 } : Room).cells ({ frames := 1, cells := 0, slots := 0, locals := 14 } : Room).slots) := by
  refine MetFree.of_bodySF (plainFor_of_name pn_1) hisR ?_
  intro p e s m args below meth c s₁ Bd hml0 hP hK
  obtain ⟨rfl, hZ, hh⟩ := hP
  have hx := Bd.exec
  have hby := Bd.bytes
  have hml : c.maxLocals = 2 := hml0
  have hown : s.vm.findClass "java/lang/String" = some m.cls := findClass_of_methodNamed Bd.named
  have hnm := (name_of_methodNamed Bd.named Bd.method).1
  have X0 : Stand p l e ({ frames := 1, cells := 0, slots := 0, locals := 14 } : Room) s m #[(.int p0), (.int p1)] below meth c s₁ [] 0 0 := Stand.of_body Bd
  have e0 : s₁.heap = h0 := by rw [← hh, Bd.state]; rfl
  have N0 := Fr.nil n0
  have pre0 : ∀ t, Steps p.tables e below (s₁.setTop (mkF m 0 #[.val (.int p0), .val (.int p1)] [])) t → Steps p.tables e below (s₁.setTop (entryFrame m #[(.int p0), (.int p1)] 2)) t := fun t k => castTop (ef_SCI m p0 p1) k
  obtain ⟨T1, X1, e1, st1⟩ := getS2 X0 hx hZ hown (host := "") (Or.inl (hw _ (List.mem_of_getElem? (i := 32) rfl))) Via.refl e0 SG (g := (mkF m 2 #[.val (.int p0), .val (.int p1)] [(.int p1), (.int p0)])) rfl (hb hby dSCI_2)
  obtain ⟨_, _, ⟨T2, L2, k2, n2⟩, -, X2, ⟨Lc2, hQ2, l2, y2, z2⟩, st2⟩ := Jvm.LawKit.callS X1 hx (y := (⟨"jdk/internal/util/Preconditions", "checkIndex", "(IILjava/util/function/BiFunction;)I"⟩ : MethodName)) hown (mvT hZ (hw _ (List.mem_of_getElem? (i := 34) rfl))) (mvT hZ (hw _ (List.mem_of_getElem? (i := 35) rfl))) (mvT hZ (hw _ (List.mem_of_getElem? (i := 33) rfl))) (mvT hZ (hw _ (List.mem_of_getElem? (i := 36) rfl))) (by decide) (backOf (W := 0) (rmPC l Z a0 hw [] p0 p1 vG h0 n0 Z0 hp0 hlt hvG) hZ (hw _ (List.mem_of_getElem? (i := 36) rfl)) (hw _ (List.mem_of_getElem? (i := 33) rfl)) (by decide) (by decide)) (g := (mkF m 5 #[.val (.int p0), .val (.int p1)] [vG, (.int p1), (.int p0)])) rfl (by rw [hml]; rfl) (argsL := [(.int p0), (.int p1), vG]) (rest := []) (lenOf pd_0 rfl) rfl (by show 2 * 0 + _ ≤ _; exact Nat.le_of_eq rfl) (hb hby dSCI_5) (fun _ _ => ⟨rfl, e1, (by decide : 0 + 0 ≤ _), (by decide : 0 + 0 ≤ _)⟩)
  dsimp only [Pt.U, Pt.locs, Pt.cells, Pt.slots] at X2 l2 y2 z2 st2 hQ2
  subst l2 y2 z2
  obtain ⟨rfl, N2q, e2⟩ := hQ2
  have N2 := Fr.app N0 N2q
  obtain ⟨fs, hr, hrun, hended, hW, hsame⟩ := X2.leave (v := none) (fun _ => rfl)
  refine ⟨_, _, pre0 _ ?_, hrun, hended, _, _, rfl, ?_, ⟨_, rfl⟩, hW, hsame.mono (by decide) (by decide)⟩
  · show Steps p.tables e below (s₁.setTop (mkF m 0 #[.val (.int p0), .val (.int p1)] [])) _
    refine XS.iloadN X0.here hx rfl (hb hby dSCI_0) rfl ?_
    show Steps p.tables e below (s₁.setTop (mkF m 1 #[.val (.int p0), .val (.int p1)] [(.int p0)])) _
    refine XS.iloadN X0.here hx rfl (hb hby dSCI_1) rfl ?_
    show Steps p.tables e below (s₁.setTop (mkF m 2 #[.val (.int p0), .val (.int p1)] [(.int p1), (.int p0)])) _
    refine st1 _ ?_
    show Steps p.tables e below (T1.setTop (mkF m 5 #[.val (.int p0), .val (.int p1)] [vG, (.int p1), (.int p0)])) _
    refine st2 _ ?_
    show Steps p.tables e below (T2.setTop (mkF m 8 #[.val (.int p0), .val (.int p1)] [(.int p0)])) _
    refine XS.pop X2.here hx rfl (hb hby dSCI_8) rfl rfl ?_
    show Steps p.tables e below (T2.setTop (mkF m 9 #[.val (.int p0), .val (.int p1)] [])) _
    exact X2.returnOut hx Bd.returns (hb hby dSCI_9) hr
  · show QSCI h0 n0 _ T2.heap _
    rw [e2]
    exact ⟨rfl, N2, rfl⟩
theorem dLC_0 : decode jdk_43_method_2_code 0 = .ok (.iload_n 1, 1) := by decide +kernel
theorem dLC_1 : decode jdk_43_method_2_code 1 = .ok (.aload_n 0, 1) := by decide +kernel
theorem dLC_2 : decode jdk_43_method_2_code 2 = .ok (.arraylength, 1) := by decide +kernel
theorem dLC_3 : decode jdk_43_method_2_code 3 = .ok (.invokestatic 9, 3) := by decide +kernel
theorem dLC_6 : decode jdk_43_method_2_code 6 = .ok (.aload_n 0, 1) := by decide +kernel
theorem dLC_7 : decode jdk_43_method_2_code 7 = .ok (.iload_n 1, 1) := by decide +kernel
theorem dLC_8 : decode jdk_43_method_2_code 8 = .ok (.baload, 1) := by decide +kernel
theorem dLC_9 : decode jdk_43_method_2_code 9 = .ok (.sipush 255, 3) := by decide +kernel
theorem dLC_12 : decode jdk_43_method_2_code 12 = .ok (.iand, 1) := by decide +kernel
theorem dLC_13 : decode jdk_43_method_2_code 13 = .ok (.i2c, 1) := by decide +kernel
theorem dLC_14 : decode jdk_43_method_2_code 14 = .ok (.ireturn, 1) := by decide +kernel
theorem pn_2 : plainName "java/lang/StringLatin1" = true := by first | (simp [plainName, overriddenIn]; done) | decide +kernel
theorem pd_1 : parseMethodDescriptor "(II)V" = some ⟨[.int, .int], none⟩ := by decide +kernel
theorem ef_LC (m : MethodId) (o0 : Addr) : entryFrame m #[(.ref o0), (.int (0 : Int32))] 2 = mkF m 0 #[.val (.ref o0), .val (.int (0 : Int32))] [] := by first | (simp [entryFrame, mkF, argsToLocals, Value.category]; done) | rfl
def QLC (w : Int32) (h0 : Heap) (n0 : Nat) (v : Option Value) (h : Heap) (L : List Loc) : Prop := v = some (.int (ch1 w)) ∧ Fr n0 L ∧ h = h0
set_option maxRecDepth 65536 in
set_option maxHeartbeats 40000000 in
theorem rmLC (l : Launch) (Z : State) (a0 : Array Value) (hw : ∀ d ∈ tables_1, d.before a0 Z = true) (ws : List Jvm.Cond) (o0 : Addr) (kb : ClassId) (z w : Int32) (vs : List Value) (vG : Value) (h0 : Heap) (n0 : Nat) (Z0 : n0 ≤ h0.size) (SG : Sta Z h0 "jdk/internal/util/Preconditions" "SIOOBE_FORMATTER" "Ljava/util/function/BiFunction;" vG) (hvG : vG.isRef = true) (AV : Arv Z h0 o0 kb .byte z vs (.int (0 : Int32))) (hz : (0 : Int32) < z) (hv : vs.getD 0 (.int (0 : Int32)) = .int w) :
    MetFree l (⟨"java/lang/StringLatin1", "charAt", "([BI)C"⟩ : MethodName) (head1 (Jvm.Cond.code (⟨"java/lang/StringLatin1", "charAt", "([BI)C"⟩ : MethodName) jdk_43_method_2_code 2 (some .char) :: ws) ({ frames := 2, cells := 0, slots := 0, locals := 27 } : Room)) (fun a U => a = #[(.ref o0), (.int (0 : Int32))] ∧ Z.Warmed39 U.vm ∧ U.heap = h0) (fun _ _ _ _ _ => True) (fun _ U o U' => ∃ v L, o = .returned v ∧ QLC w h0 n0 v U'.heap L ∧ FrameEnd U o U' L ({ frames := 2, cells := 0, slots := 0, locals := 27 } : Room).cells ({ frames := 2, cells := 0, slots := 0, locals := 27 } : Room).slots) := by
  refine MetFree.of_bodySF (plainFor_of_name pn_2) hisR ?_
  intro p e s m args below meth c s₁ Bd hml0 hP hK
  obtain ⟨rfl, hZ, hh⟩ := hP
  have hx := Bd.exec
  have hby := Bd.bytes
  have hml : c.maxLocals = 2 := hml0
  have hown : s.vm.findClass "java/lang/StringLatin1" = some m.cls := findClass_of_methodNamed Bd.named
  have hnm := (name_of_methodNamed Bd.named Bd.method).1
  have X0 : Stand p l e ({ frames := 2, cells := 0, slots := 0, locals := 27 } : Room) s m #[(.ref o0), (.int (0 : Int32))] below meth c s₁ [] 0 0 := Stand.of_body Bd
  have e0 : s₁.heap = h0 := by rw [← hh, Bd.state]; rfl
  have N0 := Fr.nil n0
  have pre0 : ∀ t, Steps p.tables e below (s₁.setTop (mkF m 0 #[.val (.ref o0), .val (.int (0 : Int32))] [])) t → Steps p.tables e below (s₁.setTop (entryFrame m #[(.ref o0), (.int (0 : Int32))] 2)) t := fun t k => castTop (ef_LC m o0) k
  obtain ⟨cl1, Ar1, -, S1, Nn1, -, -⟩ := id AV
  obtain ⟨_, _, ⟨T2, L2, k2, n2⟩, -, X2, ⟨Lc2, hQ2, l2, y2, z2⟩, st2⟩ := Jvm.LawKit.callS X0 hx (y := (⟨"java/lang/String", "checkIndex", "(II)V"⟩ : MethodName)) hown (mvT hZ (hw _ (List.mem_of_getElem? (i := 29) rfl))) (mvT hZ (hw _ (List.mem_of_getElem? (i := 30) rfl))) (mvT hZ (hw _ (List.mem_of_getElem? (i := 5) rfl))) (mvT hZ (hw _ (List.mem_of_getElem? (i := 31) rfl))) (by decide) (backOf (W := 0) (rmSCI l Z a0 hw [] (0 : Int32) z vG h0 n0 Z0 SG hvG (by decide) hz) hZ (hw _ (List.mem_of_getElem? (i := 31) rfl)) (hw _ (List.mem_of_getElem? (i := 5) rfl)) (by decide) (by decide)) (g := (mkF m 3 #[.val (.ref o0), .val (.int (0 : Int32))] [(.int z), (.int (0 : Int32))])) rfl (by rw [hml]; rfl) (argsL := [(.int (0 : Int32)), (.int z)]) (rest := []) (lenOf pd_1 rfl) rfl (by show 2 * 0 + _ ≤ _; exact Nat.le_of_eq rfl) (hb hby dLC_3) (fun _ _ => ⟨rfl, e0, (by decide : 0 + 0 ≤ _), (by decide : 0 + 0 ≤ _)⟩)
  dsimp only [Pt.U, Pt.locs, Pt.cells, Pt.slots] at X2 l2 y2 z2 st2 hQ2
  subst l2 y2 z2
  obtain ⟨rfl, N2q, e2⟩ := hQ2
  have N2 := Fr.app N0 N2q
  obtain ⟨cl3, Ar3, -, S3, Nn3, Hh3, -⟩ := id AV
  have hin3 : ¬ ((0 : Int32) < 0 ∨ cl3.slots.size ≤ ((0 : Int32)).toNatClampNeg) := inb_of S3 ⟨by decide, hz⟩
  have hat3 : cl3.slots[((0 : Int32)).toNatClampNeg]? = some (.int w) := Hh3.at hin3 hv
  obtain ⟨fs, hr, hrun, hended, hW, hsame⟩ := X2.leave (v := some (.int (nar .char ((w &&& (255 : Int32)).toUInt32.toUInt16.toUInt32.toInt32)))) (fun h => by rw [Bd.returns] at h; cases h)
  refine ⟨_, _, pre0 _ ?_, hrun, hended, _, _, rfl, ?_, ⟨_, rfl⟩, hW, hsame.mono (by decide) (by decide)⟩
  · show Steps p.tables e below (s₁.setTop (mkF m 0 #[.val (.ref o0), .val (.int (0 : Int32))] [])) _
    refine XS.iloadN X0.here hx rfl (hb hby dLC_0) rfl ?_
    show Steps p.tables e below (s₁.setTop (mkF m 1 #[.val (.ref o0), .val (.int (0 : Int32))] [(.int (0 : Int32))])) _
    refine XS.aloadN X0.here hx rfl (hb hby dLC_1) rfl rfl ?_
    show Steps p.tables e below (s₁.setTop (mkF m 2 #[.val (.ref o0), .val (.int (0 : Int32))] [(.ref o0), (.int (0 : Int32))])) _
    refine X0.arraylength hx (by rw [e0]; exact Ar1.1) (State.isArrayOf_alike hZ.alike Ar1.2.1) (g := (mkF m 2 #[.val (.ref o0), .val (.int (0 : Int32))] [(.ref o0), (.int (0 : Int32))])) rfl rfl (hb hby dLC_2) _ ?_
    rw [len_of S1 Nn1]
    show Steps p.tables e below (s₁.setTop (mkF m 3 #[.val (.ref o0), .val (.int (0 : Int32))] [(.int z), (.int (0 : Int32))])) _
    refine st2 _ ?_
    show Steps p.tables e below (T2.setTop (mkF m 6 #[.val (.ref o0), .val (.int (0 : Int32))] [])) _
    refine XS.aloadN X2.here hx rfl (hb hby dLC_6) rfl rfl ?_
    show Steps p.tables e below (T2.setTop (mkF m 7 #[.val (.ref o0), .val (.int (0 : Int32))] [(.ref o0)])) _
    refine XS.iloadN X2.here hx rfl (hb hby dLC_7) rfl ?_
    show Steps p.tables e below (T2.setTop (mkF m 8 #[.val (.ref o0), .val (.int (0 : Int32))] [(.int (0 : Int32)), (.ref o0)])) _
    refine X2.baloadBytes hx (j := (0 : Int32)) (v := (.int w)) (by rw [e2]; exact Ar3.1) (State.isArrayOf_alike hZ.alike Ar3.2.1) Ar3.2.2 hin3 hat3 (g := (mkF m 8 #[.val (.ref o0), .val (.int (0 : Int32))] [(.int (0 : Int32)), (.ref o0)])) rfl rfl (hb hby dLC_8) _ ?_
    show Steps p.tables e below (T2.setTop (mkF m 9 #[.val (.ref o0), .val (.int (0 : Int32))] [(.int w)])) _
    refine XS.sipush X2.here hx rfl (hb hby dLC_9) ?_
    show Steps p.tables e below (T2.setTop (mkF m 12 #[.val (.ref o0), .val (.int (0 : Int32))] [(.int (255 : Int32)), (.int w)])) _
    refine XS.iand X2.here hx rfl (hb hby dLC_12) rfl ?_
    show Steps p.tables e below (T2.setTop (mkF m 13 #[.val (.ref o0), .val (.int (0 : Int32))] [(.int (w &&& (255 : Int32)))])) _
    refine XS.i2c X2.here hx rfl (hb hby dLC_13) rfl ?_
    show Steps p.tables e below (T2.setTop (mkF m 14 #[.val (.ref o0), .val (.int (0 : Int32))] [(.int ((w &&& (255 : Int32)).toUInt32.toUInt16.toUInt32.toInt32))])) _
    exact retN X2 hx (t := .char) Bd.returns (by simp) (hb hby dLC_14) hr
  · show QLC w h0 n0 _ T2.heap _
    rw [e2]
    exact ⟨rfl, N2, rfl⟩
theorem dIL_0 : decode jdk_42_method_154_code 0 = .ok (.getstatic 38, 3) := by decide +kernel
theorem dIL_3 : decode jdk_42_method_154_code 3 = .ok (.ifCond .eq 14, 3) := by decide +kernel
theorem dIL_6 : decode jdk_42_method_154_code 6 = .ok (.aload_n 0, 1) := by decide +kernel
theorem dIL_7 : decode jdk_42_method_154_code 7 = .ok (.getfield 15, 3) := by decide +kernel
theorem dIL_10 : decode jdk_42_method_154_code 10 = .ok (.ifCond .ne 7, 3) := by decide +kernel
theorem dIL_13 : decode jdk_42_method_154_code 13 = .ok (.iconst 1, 1) := by decide +kernel
theorem dIL_14 : decode jdk_42_method_154_code 14 = .ok (.goto 4, 3) := by decide +kernel
theorem dIL_18 : decode jdk_42_method_154_code 18 = .ok (.ireturn, 1) := by decide +kernel
theorem ef_IL (m : MethodId) (o0 : Addr) : entryFrame m #[(.ref o0)] 1 = mkF m 0 #[.val (.ref o0)] [] := by first | (simp [entryFrame, mkF, argsToLocals, Value.category]; done) | rfl
def QIL  (h0 : Heap) (n0 : Nat) (v : Option Value) (h : Heap) (L : List Loc) : Prop := v = some (.int (1 : Int32)) ∧ Fr n0 L ∧ h = h0
set_option maxRecDepth 65536 in
set_option maxHeartbeats 40000000 in
theorem rmIL (l : Launch) (Z : State) (a0 : Array Value) (hw : ∀ d ∈ tables_1, d.before a0 Z = true) (ws : List Jvm.Cond) (o0 : Addr) (iC : Int32) (h0 : Heap) (n0 : Nat) (Z0 : n0 ≤ h0.size) (SC : Sta Z h0 "java/lang/String" "COMPACT_STRINGS" "Z" (.int iC)) (hC : ¬ iC = (0 : Int32)) (Fc : Fld Z h0 o0 "java/lang/String" "coder" "B" (.int (0 : Int32))) :
    MetFree l (⟨"java/lang/String", "isLatin1", "()Z"⟩ : MethodName) (head1 (Jvm.Cond.code (⟨"java/lang/String", "isLatin1", "()Z"⟩ : MethodName) jdk_42_method_154_code 1 (some .boolean) :: ws) ({ frames := 0, cells := 0, slots := 0, locals := 0 } : Room)) (fun a U => a = #[(.ref o0)] ∧ Z.Warmed39 U.vm ∧ U.heap = h0) (fun _ _ _ _ _ => True) (fun _ U o U' => ∃ v L, o = .returned v ∧ QIL h0 n0 v U'.heap L ∧ FrameEnd U o U' L ({ frames := 0, cells := 0, slots := 0, locals := 0 } : Room).cells ({ frames := 0, cells := 0, slots := 0, locals := 0 } : Room).slots) := by
  refine MetFree.of_bodySF (plainFor_of_name pn_1) hisR ?_
  intro p e s m args below meth c s₁ Bd hml0 hP hK
  obtain ⟨rfl, hZ, hh⟩ := hP
  have hx := Bd.exec
  have hby := Bd.bytes
  have hml : c.maxLocals = 1 := hml0
  have hown : s.vm.findClass "java/lang/String" = some m.cls := findClass_of_methodNamed Bd.named
  have hnm := (name_of_methodNamed Bd.named Bd.method).1
  have X0 : Stand p l e ({ frames := 0, cells := 0, slots := 0, locals := 0 } : Room) s m #[(.ref o0)] below meth c s₁ [] 0 0 := Stand.of_body Bd
  have e0 : s₁.heap = h0 := by rw [← hh, Bd.state]; rfl
  have N0 := Fr.nil n0
  have pre0 : ∀ t, Steps p.tables e below (s₁.setTop (mkF m 0 #[.val (.ref o0)] [])) t → Steps p.tables e below (s₁.setTop (entryFrame m #[(.ref o0)] 1)) t := fun t k => castTop (ef_IL m o0) k
  obtain ⟨T1, X1, e1, st1⟩ := getS2 X0 hx hZ hown (host := "") (Or.inl (hw _ (List.mem_of_getElem? (i := 22) rfl))) Via.refl e0 SC (g := (mkF m 0 #[.val (.ref o0)] [])) rfl (hb hby dIL_0)
  obtain ⟨T2, X2, e2, st2⟩ := getF X1 hx hZ hown (host := "") (Or.inl (hw _ (List.mem_of_getElem? (i := 23) rfl))) Via.refl e1 Fc (g := (mkF m 7 #[.val (.ref o0)] [(.ref o0)])) rfl rfl (hb hby dIL_7)
  obtain ⟨fs, hr, hrun, hended, hW, hsame⟩ := X2.leave (v := some (.int (1 : Int32))) (fun h => by rw [Bd.returns] at h; cases h)
  refine ⟨_, _, pre0 _ ?_, hrun, hended, _, _, rfl, ?_, ⟨_, rfl⟩, hW, hsame.mono (by decide) (by decide)⟩
  · show Steps p.tables e below (s₁.setTop (mkF m 0 #[.val (.ref o0)] [])) _
    refine st1 _ ?_
    show Steps p.tables e below (T1.setTop (mkF m 3 #[.val (.ref o0)] [(.int iC)])) _
    refine XS.ifNo X1.here hx rfl (hb hby dIL_3) rfl ((if0 _ _).trans (feq (show ¬ (iC = (0 : Int32)) from hC)).1) ?_
    show Steps p.tables e below (T1.setTop (mkF m 6 #[.val (.ref o0)] [])) _
    refine XS.aloadN X1.here hx rfl (hb hby dIL_6) rfl rfl ?_
    show Steps p.tables e below (T1.setTop (mkF m 7 #[.val (.ref o0)] [(.ref o0)])) _
    refine st2 _ ?_
    show Steps p.tables e below (T2.setTop (mkF m 10 #[.val (.ref o0)] [(.int (0 : Int32))])) _
    refine XS.ifNo X2.here hx rfl (hb hby dIL_10) rfl ((if0 _ _).trans (teq (show (0 : Int32) = (0 : Int32) from (by decide))).2) ?_
    show Steps p.tables e below (T2.setTop (mkF m 13 #[.val (.ref o0)] [])) _
    refine XS.iconst X2.here hx rfl (hb hby dIL_13) ?_
    show Steps p.tables e below (T2.setTop (mkF m 14 #[.val (.ref o0)] [(.int (1 : Int32))])) _
    refine XS.goto X2.here hx rfl (pc0 := 14) (pc' := 18) rfl (hb hby dIL_14) (by decide) (by decide) ?_
    show Steps p.tables e below (T2.setTop (mkF m 18 #[.val (.ref o0)] [(.int (1 : Int32))])) _
    exact retN X2 hx (t := .boolean) Bd.returns (by simp) (hb hby dIL_18) hr
  · show QIL h0 n0 _ T2.heap _
    rw [e2]
    exact ⟨rfl, N0, rfl⟩
theorem dCA_0 : decode jdk_42_method_56_code 0 = .ok (.aload_n 0, 1) := by decide +kernel
theorem dCA_1 : decode jdk_42_method_56_code 1 = .ok (.invokevirtual 492, 3) := by decide +kernel
theorem dCA_4 : decode jdk_42_method_56_code 4 = .ok (.ifCond .eq 12, 3) := by decide +kernel
theorem dCA_7 : decode jdk_42_method_56_code 7 = .ok (.aload_n 0, 1) := by decide +kernel
theorem dCA_8 : decode jdk_42_method_56_code 8 = .ok (.getfield 9, 3) := by decide +kernel
theorem dCA_11 : decode jdk_42_method_56_code 11 = .ok (.iload_n 1, 1) := by decide +kernel
theorem dCA_12 : decode jdk_42_method_56_code 12 = .ok (.invokestatic 495, 3) := by decide +kernel
theorem dCA_15 : decode jdk_42_method_56_code 15 = .ok (.ireturn, 1) := by decide +kernel
theorem pd_2 : parseMethodDescriptor "()Z" = some ⟨[], some .boolean⟩ := by decide +kernel
theorem pd_3 : parseMethodDescriptor "([BI)C" = some ⟨[(.array .byte), .int], some .char⟩ := by decide +kernel
theorem ef_CA (m : MethodId) (o0 : Addr) : entryFrame m #[(.ref o0), (.int (0 : Int32))] 2 = mkF m 0 #[.val (.ref o0), .val (.int (0 : Int32))] [] := by first | (simp [entryFrame, mkF, argsToLocals, Value.category]; done) | rfl
def QCA (w : Int32) (h0 : Heap) (n0 : Nat) (v : Option Value) (h : Heap) (L : List Loc) : Prop := v = some (.int (ch2 w)) ∧ Fr n0 L ∧ h = h0
set_option maxRecDepth 65536 in
set_option maxHeartbeats 40000000 in
theorem rmCA (l : Launch) (Z : State) (a0 : Array Value) (hw : ∀ d ∈ tables_1, d.before a0 Z = true) (ws : List Jvm.Cond) (o0 bb : Addr) (kb : ClassId) (z w iC : Int32) (vs : List Value) (vG : Value) (h0 : Heap) (n0 : Nat) (Z0 : n0 ≤ h0.size) (SC : Sta Z h0 "java/lang/String" "COMPACT_STRINGS" "Z" (.int iC)) (hC : ¬ iC = (0 : Int32)) (SG : Sta Z h0 "jdk/internal/util/Preconditions" "SIOOBE_FORMATTER" "Ljava/util/function/BiFunction;" vG) (hvG : vG.isRef = true) (Es : Exa Z h0 o0 "java/lang/String") (Fc : Fld Z h0 o0 "java/lang/String" "coder" "B" (.int (0 : Int32))) (Fv : Fld Z h0 o0 "java/lang/String" "value" "[B" (.ref bb)) (AV : Arv Z h0 bb kb .byte z vs (.int (0 : Int32))) (hz : (0 : Int32) < z) (hv : vs.getD 0 (.int (0 : Int32)) = .int w) :
    MetFree l (⟨"java/lang/String", "charAt", "(I)C"⟩ : MethodName) (head1 (Jvm.Cond.code (⟨"java/lang/String", "charAt", "(I)C"⟩ : MethodName) jdk_42_method_56_code 2 (some .char) :: ws) ({ frames := 3, cells := 0, slots := 0, locals := 40 } : Room)) (fun a U => a = #[(.ref o0), (.int (0 : Int32))] ∧ Z.Warmed39 U.vm ∧ U.heap = h0) (fun _ _ _ _ _ => True) (fun _ U o U' => ∃ v L, o = .returned v ∧ QCA w h0 n0 v U'.heap L ∧ FrameEnd U o U' L ({ frames := 3, cells := 0, slots := 0, locals := 40 } : Room).cells ({ frames := 3, cells := 0, slots := 0, locals := 40 } : Room).slots) := by
  refine MetFree.of_bodySF (plainFor_of_name pn_1) hisR ?_
  intro p e s m args below meth c s₁ Bd hml0 hP hK
  obtain ⟨rfl, hZ, hh⟩ := hP
  have hx := Bd.exec
  have hby := Bd.bytes
  have hml : c.maxLocals = 2 := hml0
  have hown : s.vm.findClass "java/lang/String" = some m.cls := findClass_of_methodNamed Bd.named
  have hnm := (name_of_methodNamed Bd.named Bd.method).1
  have X0 : Stand p l e ({ frames := 3, cells := 0, slots := 0, locals := 40 } : Room) s m #[(.ref o0), (.int (0 : Int32))] below meth c s₁ [] 0 0 := Stand.of_body Bd
  have e0 : s₁.heap = h0 := by rw [← hh, Bd.state]; rfl
  have N0 := Fr.nil n0
  have pre0 : ∀ t, Steps p.tables e below (s₁.setTop (mkF m 0 #[.val (.ref o0), .val (.int (0 : Int32))] [])) t → Steps p.tables e below (s₁.setTop (entryFrame m #[(.ref o0), (.int (0 : Int32))] 2)) t := fun t k => castTop (ef_CA m o0) k
  obtain ⟨cq1, kq1, q1a, q1b, q1c⟩ := isOf hZ e0 Es
  obtain ⟨_, _, ⟨T1, L1, k1, n1⟩, -, X1, ⟨Lc1, hQ1, l1, y1, z1⟩, st1⟩ := X0.virtualBack hx (y := (⟨"java/lang/String", "isLatin1", "()Z"⟩ : MethodName)) (z := (⟨"java/lang/String", "isLatin1", "()Z"⟩ : MethodName)) hown (mvT hZ (hw _ (List.mem_of_getElem? (i := 17) rfl))) (mvT hZ (hw _ (List.mem_of_getElem? (i := 18) rfl))) (notFace_of_selects (args := #[]) (mvT hZ (hw _ (List.mem_of_getElem? (i := 20) rfl)))) (mvT hZ (hw _ (List.mem_of_getElem? (i := 20) rfl))) (mvT hZ (hw _ (List.mem_of_getElem? (i := 19) rfl))) (by decide) (backOf (W := 0) (rmIL l Z a0 hw [] o0 iC h0 n0 Z0 SC hC Fc) hZ (hw _ (List.mem_of_getElem? (i := 21) rfl)) (hw _ (List.mem_of_getElem? (i := 5) rfl)) (by decide) (by decide)) q1a q1c (g := (mkF m 1 #[.val (.ref o0), .val (.int (0 : Int32))] [(.ref o0)])) rfl (by rw [hml]; rfl) (Steps.refl _) (argsL := []) (rest := []) (lenOf pd_2 rfl) rfl (by show 2 * 0 + _ ≤ _; exact Nat.le_of_eq rfl) (hb hby dCA_1) (fun _ _ => ⟨rfl, e0, (by decide : 0 + 0 ≤ _), (by decide : 0 + 0 ≤ _)⟩)
  dsimp only [Pt.U, Pt.locs, Pt.cells, Pt.slots] at X1 l1 y1 z1 st1 hQ1
  subst l1 y1 z1
  obtain ⟨rfl, N1q, e1⟩ := hQ1
  have N1 := Fr.app N0 N1q
  obtain ⟨T2, X2, e2, st2⟩ := getF X1 hx hZ hown (host := "") (Or.inl (hw _ (List.mem_of_getElem? (i := 24) rfl))) Via.refl e1 Fv (g := (mkF m 8 #[.val (.ref o0), .val (.int (0 : Int32))] [(.ref o0)])) rfl rfl (hb hby dCA_8)
  obtain ⟨_, _, ⟨T3, L3, k3, n3⟩, -, X3, ⟨Lc3, hQ3, l3, y3, z3⟩, st3⟩ := Jvm.LawKit.callS X2 hx (y := (⟨"java/lang/StringLatin1", "charAt", "([BI)C"⟩ : MethodName)) hown (mvT hZ (hw _ (List.mem_of_getElem? (i := 25) rfl))) (mvT hZ (hw _ (List.mem_of_getElem? (i := 26) rfl))) (mvT hZ (hw _ (List.mem_of_getElem? (i := 27) rfl))) (mvT hZ (hw _ (List.mem_of_getElem? (i := 28) rfl))) (by decide) (backOf (W := 0) (rmLC l Z a0 hw [] bb kb z w vs vG h0 n0 Z0 SG hvG AV hz hv) hZ (hw _ (List.mem_of_getElem? (i := 28) rfl)) (hw _ (List.mem_of_getElem? (i := 27) rfl)) (by decide) (by decide)) (g := (mkF m 12 #[.val (.ref o0), .val (.int (0 : Int32))] [(.int (0 : Int32)), (.ref bb)])) rfl (by rw [hml]; rfl) (argsL := [(.ref bb), (.int (0 : Int32))]) (rest := []) (lenOf pd_3 rfl) rfl (by show 2 * 0 + _ ≤ _; exact Nat.le_of_eq rfl) (hb hby dCA_12) (fun _ _ => ⟨rfl, e2, (by decide : 0 + 0 ≤ _), (by decide : 0 + 0 ≤ _)⟩)
  dsimp only [Pt.U, Pt.locs, Pt.cells, Pt.slots] at X3 l3 y3 z3 st3 hQ3
  subst l3 y3 z3
  obtain ⟨rfl, N3q, e3⟩ := hQ3
  have N3 := Fr.app N1 N3q
  obtain ⟨fs, hr, hrun, hended, hW, hsame⟩ := X3.leave (v := some (.int (nar .char (ch1 w)))) (fun h => by rw [Bd.returns] at h; cases h)
  refine ⟨_, _, pre0 _ ?_, hrun, hended, _, _, rfl, ?_, ⟨_, rfl⟩, hW, hsame.mono (by decide) (by decide)⟩
  · show Steps p.tables e below (s₁.setTop (mkF m 0 #[.val (.ref o0), .val (.int (0 : Int32))] [])) _
    refine XS.aloadN X0.here hx rfl (hb hby dCA_0) rfl rfl ?_
    show Steps p.tables e below (s₁.setTop (mkF m 1 #[.val (.ref o0), .val (.int (0 : Int32))] [(.ref o0)])) _
    refine st1.trans ?_
    show Steps p.tables e below (T1.setTop (mkF m 4 #[.val (.ref o0), .val (.int (0 : Int32))] [(.int (1 : Int32))])) _
    refine XS.ifNo X1.here hx rfl (hb hby dCA_4) rfl ((if0 _ _).trans (feq (show ¬ ((1 : Int32) = (0 : Int32)) from (by decide))).1) ?_
    show Steps p.tables e below (T1.setTop (mkF m 7 #[.val (.ref o0), .val (.int (0 : Int32))] [])) _
    refine XS.aloadN X1.here hx rfl (hb hby dCA_7) rfl rfl ?_
    show Steps p.tables e below (T1.setTop (mkF m 8 #[.val (.ref o0), .val (.int (0 : Int32))] [(.ref o0)])) _
    refine st2 _ ?_
    show Steps p.tables e below (T2.setTop (mkF m 11 #[.val (.ref o0), .val (.int (0 : Int32))] [(.ref bb)])) _
    refine XS.iloadN X2.here hx rfl (hb hby dCA_11) rfl ?_
    show Steps p.tables e below (T2.setTop (mkF m 12 #[.val (.ref o0), .val (.int (0 : Int32))] [(.int (0 : Int32)), (.ref bb)])) _
    refine st3 _ ?_
    show Steps p.tables e below (T3.setTop (mkF m 15 #[.val (.ref o0), .val (.int (0 : Int32))] [(.int (ch1 w))])) _
    exact retN X3 hx (t := .char) Bd.returns (by simp) (hb hby dCA_15) hr
  · show QCA w h0 n0 _ T3.heap _
    rw [e3]
    exact ⟨rfl, N3, rfl⟩
theorem dLM_0 : decode prog_101_method_7_code 0 = .ok (.aload_n 0, 1) := by decide +kernel
theorem dLM_1 : decode prog_101_method_7_code 1 = .ok (.getstatic 10, 3) := by decide +kernel
theorem dLM_4 : decode prog_101_method_7_code 4 = .ok (.if_acmp .eq 10, 3) := by decide +kernel
theorem dLM_7 : decode prog_101_method_7_code 7 = .ok (.aload_n 0, 1) := by decide +kernel
theorem dLM_8 : decode prog_101_method_7_code 8 = .ok (.getstatic 22, 3) := by decide +kernel
theorem dLM_11 : decode prog_101_method_7_code 11 = .ok (.if_acmp .ne 7, 3) := by decide +kernel
theorem dLM_14 : decode prog_101_method_7_code 14 = .ok (.iload_n 1, 1) := by decide +kernel
theorem dLM_15 : decode prog_101_method_7_code 15 = .ok (.goto 6, 3) := by decide +kernel
theorem dLM_18 : decode prog_101_method_7_code 18 = .ok (.iload_n 1, 1) := by decide +kernel
theorem dLM_19 : decode prog_101_method_7_code 19 = .ok (.iconst 1, 1) := by decide +kernel
theorem dLM_20 : decode prog_101_method_7_code 20 = .ok (.isub, 1) := by decide +kernel
theorem dLM_21 : decode prog_101_method_7_code 21 = .ok (.ireturn, 1) := by decide +kernel
theorem pn_3 : plainName site_133.cls = true := by first | (simp [plainName, overriddenIn]; done) | decide +kernel
theorem ef_LM (m : MethodId) (o0 : Addr) (p1 : Int32) : entryFrame m #[(.ref o0), (.int p1)] 2 = mkF m 0 #[.val (.ref o0), .val (.int p1)] [] := by first | (simp [entryFrame, mkF, argsToLocals, Value.category]; done) | rfl
def QLM (o0 uYFX uYF : Addr) (p1 : Int32) (h0 : Heap) (n0 : Nat) (v : Option Value) (h : Heap) (L : List Loc) : Prop := v = some (.int (leftV o0 uYFX uYF p1)) ∧ Fr n0 L ∧ h = h0
set_option maxRecDepth 65536 in
set_option maxHeartbeats 40000000 in
theorem rmLM (l : Launch) (Z : State) (a0 : Array Value) (hw : ∀ d ∈ tables_1, d.before a0 Z = true) (ws : List Jvm.Cond) (o0 : Addr) (p1 : Int32) (uYFX uYF : Addr) (h0 : Heap) (n0 : Nat) (Z0 : n0 ≤ h0.size) (SYFX : Sta Z h0 site_133.cls "YFX" DD (.ref uYFX)) (SYF : Sta Z h0 site_133.cls "YF" DD (.ref uYF)) :
    MetFree l (⟨site_133.cls, "leftMax", "(I)I"⟩ : MethodName) (head1 (Jvm.Cond.code (⟨site_133.cls, "leftMax", "(I)I"⟩ : MethodName) prog_101_method_7_code 2 (some .int) :: ws) ({ frames := 0, cells := 0, slots := 0, locals := 0 } : Room)) (fun a U => a = #[(.ref o0), (.int p1)] ∧ Z.Warmed39 U.vm ∧ U.heap = h0) (fun _ _ _ _ _ => True) (fun _ U o U' => ∃ v L, o = .returned v ∧ QLM o0 uYFX uYF p1 h0 n0 v U'.heap L ∧ FrameEnd U o U' L ({ frames := 0, cells := 0, slots := 0, locals := 0 } : Room).cells ({ frames := 0, cells := 0, slots := 0, locals := 0 } : Room).slots) := by
  refine MetFree.of_bodySF (plainFor_of_name pn_3) hisR ?_
  intro p e s m args below meth c s₁ Bd hml0 hP hK
  obtain ⟨rfl, hZ, hh⟩ := hP
  have hx := Bd.exec
  have hby := Bd.bytes
  have hml : c.maxLocals = 2 := hml0
  have hown : s.vm.findClass site_133.cls = some m.cls := findClass_of_methodNamed Bd.named
  have hnm := (name_of_methodNamed Bd.named Bd.method).1
  have X0 : Stand p l e ({ frames := 0, cells := 0, slots := 0, locals := 0 } : Room) s m #[(.ref o0), (.int p1)] below meth c s₁ [] 0 0 := Stand.of_body Bd
  have e0 : s₁.heap = h0 := by rw [← hh, Bd.state]; rfl
  have N0 := Fr.nil n0
  have pre0 : ∀ t, Steps p.tables e below (s₁.setTop (mkF m 0 #[.val (.ref o0), .val (.int p1)] [])) t → Steps p.tables e below (s₁.setTop (entryFrame m #[(.ref o0), (.int p1)] 2)) t := fun t k => castTop (ef_LM m o0 p1) k
  obtain ⟨T1, X1, e1, st1⟩ := getS2 X0 hx hZ hown (host := "") (Or.inl (hw _ (List.mem_of_getElem? (i := 42) rfl))) Via.refl e0 SYFX (g := (mkF m 1 #[.val (.ref o0), .val (.int p1)] [(.ref o0)])) rfl (hb hby dLM_1)
  have pre2 : ∀ t, Steps p.tables e below (T1.setTop (mkF m 4 #[.val (.ref o0), .val (.int p1)] [(.ref uYFX), (.ref o0)])) t → Steps p.tables e below (s₁.setTop (entryFrame m #[(.ref o0), (.int p1)] 2)) t := fun t kt => pre0 t (by
      show Steps p.tables e below (s₁.setTop (mkF m 0 #[.val (.ref o0), .val (.int p1)] [])) _
      refine XS.aloadN X0.here hx rfl (hb hby dLM_0) rfl rfl ?_
      show Steps p.tables e below (s₁.setTop (mkF m 1 #[.val (.ref o0), .val (.int p1)] [(.ref o0)])) _
      refine st1 _ ?_
      exact kt)
  by_cases hc4 : o0 = uYFX
  · obtain ⟨fs, hr, hrun, hended, hW, hsame⟩ := X1.leave (v := some (.int p1)) (fun h => by rw [Bd.returns] at h; cases h)
    refine ⟨_, _, pre2 _ ?_, hrun, hended, _, _, rfl, ?_, ⟨_, rfl⟩, hW, hsame.mono (by decide) (by decide)⟩
    · show Steps p.tables e below (T1.setTop (mkF m 4 #[.val (.ref o0), .val (.int p1)] [(.ref uYFX), (.ref o0)])) _
      refine Jvm.RoadKit.acmp (g := (mkF m 4 #[.val (.ref o0), .val (.int p1)] [(.ref uYFX), (.ref o0)])) X1 hx rfl rfl rfl (pc0 := 4) (pc' := 14) (same := true) rfl (hb hby dLM_4) rfl (decide_eq_true (congrArg Value.ref hc4)) (by decide) (by decide) ?_
      show Steps p.tables e below (T1.setTop (mkF m 14 #[.val (.ref o0), .val (.int p1)] [])) _
      refine XS.iloadN X1.here hx rfl (hb hby dLM_14) rfl ?_
      show Steps p.tables e below (T1.setTop (mkF m 15 #[.val (.ref o0), .val (.int p1)] [(.int p1)])) _
      refine XS.goto X1.here hx rfl (pc0 := 15) (pc' := 21) rfl (hb hby dLM_15) (by decide) (by decide) ?_
      show Steps p.tables e below (T1.setTop (mkF m 21 #[.val (.ref o0), .val (.int p1)] [(.int p1)])) _
      exact retI X1 hx Bd.returns (hb hby dLM_21) hr
    · show QLM o0 uYFX uYF p1 h0 n0 _ T1.heap _
      rw [e1]
      exact ⟨(by rw [leftV, if_pos hc4]), N0, rfl⟩
  · obtain ⟨T3, X3, e3, st3⟩ := getS2 X1 hx hZ hown (host := "") (Or.inl (hw _ (List.mem_of_getElem? (i := 44) rfl))) Via.refl e1 SYF (g := (mkF m 8 #[.val (.ref o0), .val (.int p1)] [(.ref o0)])) rfl (hb hby dLM_8)
    have pre4 : ∀ t, Steps p.tables e below (T3.setTop (mkF m 11 #[.val (.ref o0), .val (.int p1)] [(.ref uYF), (.ref o0)])) t → Steps p.tables e below (s₁.setTop (entryFrame m #[(.ref o0), (.int p1)] 2)) t := fun t kt => pre2 t (by
        show Steps p.tables e below (T1.setTop (mkF m 4 #[.val (.ref o0), .val (.int p1)] [(.ref uYFX), (.ref o0)])) _
        refine Jvm.RoadKit.acmp (g := (mkF m 4 #[.val (.ref o0), .val (.int p1)] [(.ref uYFX), (.ref o0)])) X1 hx rfl rfl rfl (pc0 := 4) (pc' := 7) (same := false) rfl (hb hby dLM_4) rfl (decide_eq_false fun q => hc4 (Value.ref.inj q)) (by decide) (by decide) ?_
        show Steps p.tables e below (T1.setTop (mkF m 7 #[.val (.ref o0), .val (.int p1)] [])) _
        refine XS.aloadN X1.here hx rfl (hb hby dLM_7) rfl rfl ?_
        show Steps p.tables e below (T1.setTop (mkF m 8 #[.val (.ref o0), .val (.int p1)] [(.ref o0)])) _
        refine st3 _ ?_
        exact kt)
    by_cases hc11 : o0 = uYF
    · obtain ⟨fs, hr, hrun, hended, hW, hsame⟩ := X3.leave (v := some (.int p1)) (fun h => by rw [Bd.returns] at h; cases h)
      refine ⟨_, _, pre4 _ ?_, hrun, hended, _, _, rfl, ?_, ⟨_, rfl⟩, hW, hsame.mono (by decide) (by decide)⟩
      · show Steps p.tables e below (T3.setTop (mkF m 11 #[.val (.ref o0), .val (.int p1)] [(.ref uYF), (.ref o0)])) _
        refine Jvm.RoadKit.acmp (g := (mkF m 11 #[.val (.ref o0), .val (.int p1)] [(.ref uYF), (.ref o0)])) X3 hx rfl rfl rfl (pc0 := 11) (pc' := 14) (same := true) rfl (hb hby dLM_11) rfl (decide_eq_true (congrArg Value.ref hc11)) (by decide) (by decide) ?_
        show Steps p.tables e below (T3.setTop (mkF m 14 #[.val (.ref o0), .val (.int p1)] [])) _
        refine XS.iloadN X3.here hx rfl (hb hby dLM_14) rfl ?_
        show Steps p.tables e below (T3.setTop (mkF m 15 #[.val (.ref o0), .val (.int p1)] [(.int p1)])) _
        refine XS.goto X3.here hx rfl (pc0 := 15) (pc' := 21) rfl (hb hby dLM_15) (by decide) (by decide) ?_
        show Steps p.tables e below (T3.setTop (mkF m 21 #[.val (.ref o0), .val (.int p1)] [(.int p1)])) _
        exact retI X3 hx Bd.returns (hb hby dLM_21) hr
      · show QLM o0 uYFX uYF p1 h0 n0 _ T3.heap _
        rw [e3]
        exact ⟨(by rw [leftV, if_neg hc4, if_pos hc11]), N0, rfl⟩
    · obtain ⟨fs, hr, hrun, hended, hW, hsame⟩ := X3.leave (v := some (.int (p1 - (1 : Int32)))) (fun h => by rw [Bd.returns] at h; cases h)
      refine ⟨_, _, pre4 _ ?_, hrun, hended, _, _, rfl, ?_, ⟨_, rfl⟩, hW, hsame.mono (by decide) (by decide)⟩
      · show Steps p.tables e below (T3.setTop (mkF m 11 #[.val (.ref o0), .val (.int p1)] [(.ref uYF), (.ref o0)])) _
        refine Jvm.RoadKit.acmp (g := (mkF m 11 #[.val (.ref o0), .val (.int p1)] [(.ref uYF), (.ref o0)])) X3 hx rfl rfl rfl (pc0 := 11) (pc' := 18) (same := false) rfl (hb hby dLM_11) rfl (decide_eq_false fun q => hc11 (Value.ref.inj q)) (by decide) (by decide) ?_
        show Steps p.tables e below (T3.setTop (mkF m 18 #[.val (.ref o0), .val (.int p1)] [])) _
        refine XS.iloadN X3.here hx rfl (hb hby dLM_18) rfl ?_
        show Steps p.tables e below (T3.setTop (mkF m 19 #[.val (.ref o0), .val (.int p1)] [(.int p1)])) _
        refine XS.iconst X3.here hx rfl (hb hby dLM_19) ?_
        show Steps p.tables e below (T3.setTop (mkF m 20 #[.val (.ref o0), .val (.int p1)] [(.int (1 : Int32)), (.int p1)])) _
        refine XS.isub X3.here hx rfl (hb hby dLM_20) rfl ?_
        show Steps p.tables e below (T3.setTop (mkF m 21 #[.val (.ref o0), .val (.int p1)] [(.int (p1 - (1 : Int32)))])) _
        exact retI X3 hx Bd.returns (hb hby dLM_21) hr
      · show QLM o0 uYFX uYF p1 h0 n0 _ T3.heap _
        rw [e3]
        exact ⟨(by rw [leftV, if_neg hc4, if_neg hc11]), N0, rfl⟩
theorem pn_4 : plainName x.cls = true := by first | (simp [plainName, overriddenIn]; done) | decide +kernel
theorem pd_4 : parseMethodDescriptor "(I)C" = some ⟨[.int], some .char⟩ := by decide +kernel
theorem pd_5 : parseMethodDescriptor "(I)I" = some ⟨[.int], some .int⟩ := by decide +kernel
theorem ef_0 (m : MethodId) (p0 : Int32) (p1 : Int32) : entryFrame m #[(.int p0), (.int p1)] maxLocals = mkF m 0 #[.val (.int p0), .val (.int p1), .unset, .unset, .unset, .unset] [] := by first | (simp [entryFrame, mkF, argsToLocals, Value.category, maxLocals]; done) | rfl
def Q0 (h0 : Heap) (n0 : Nat) (v : Option Value) (h : Heap) (L : List Loc) : Prop := v = some (.int 1) ∧ Fr n0 L
set_option maxRecDepth 65536 in
set_option maxHeartbeats 40000000 in
theorem rm0 (l : Launch) (Z : State) (a0 : Array Value) (hw : ∀ d ∈ tables_1, d.before a0 Z = true) (ws : List Jvm.Cond) (p0 p1 iC : Int32) (vG : Value) (uXFX uXFY uYFX uFX uFY uXF uYF : Addr) (h0 : Heap) (n0 : Nat) (Z0 : n0 ≤ h0.size) (hZh : Z.heap = h0) (wS : ∀ a ∈ Bundle.stringAtoms, a.before a0 Z = true) (hcw : Jvm.Lit.compactW.before a0 Z = true) (hheld : ∀ i ∈ [14, 19, 24, 29, 34, 39, 44], Jvm.Lit.constHeld Z x.cls i) (SC : Sta Z h0 "java/lang/String" "COMPACT_STRINGS" "Z" (.int iC)) (hC : ¬ iC = (0 : Int32)) (SG : Sta Z h0 "jdk/internal/util/Preconditions" "SIOOBE_FORMATTER" "Ljava/util/function/BiFunction;" vG) (hvG : vG.isRef = true) (SXFX : Sta Z h0 site_133.cls "XFX" DD (.ref uXFX)) (EXFX : Exa Z h0 uXFX site_133.cls) (OXFX : Fld Z h0 uXFX "java/lang/Enum" "ordinal" "I" (.int (0 : Int32))) (SXFY : Sta Z h0 site_133.cls "XFY" DD (.ref uXFY)) (EXFY : Exa Z h0 uXFY site_133.cls) (OXFY : Fld Z h0 uXFY "java/lang/Enum" "ordinal" "I" (.int (1 : Int32))) (SYFX : Sta Z h0 site_133.cls "YFX" DD (.ref uYFX)) (EYFX : Exa Z h0 uYFX site_133.cls) (OYFX : Fld Z h0 uYFX "java/lang/Enum" "ordinal" "I" (.int (2 : Int32))) (SFX : Sta Z h0 site_133.cls "FX" DD (.ref uFX)) (EFX : Exa Z h0 uFX site_133.cls) (OFX : Fld Z h0 uFX "java/lang/Enum" "ordinal" "I" (.int (3 : Int32))) (SFY : Sta Z h0 site_133.cls "FY" DD (.ref uFY)) (EFY : Exa Z h0 uFY site_133.cls) (OFY : Fld Z h0 uFY "java/lang/Enum" "ordinal" "I" (.int (4 : Int32))) (SXF : Sta Z h0 site_133.cls "XF" DD (.ref uXF)) (EXF : Exa Z h0 uXF site_133.cls) (OXF : Fld Z h0 uXF "java/lang/Enum" "ordinal" "I" (.int (5 : Int32))) (SYF : Sta Z h0 site_133.cls "YF" DD (.ref uYF)) (EYF : Exa Z h0 uYF site_133.cls) (OYF : Fld Z h0 uYF "java/lang/Enum" "ordinal" "I" (.int (6 : Int32))) :
    MetFree l x (head1 (Jvm.Cond.code x code maxLocals ret :: ws) room_1) (fun a U => a = #[(.int p0), (.int p1)] ∧ U = Z) (fun _ _ _ _ _ => True) (fun _ U o U' => ∃ v L, o = .returned v ∧ Q0 h0 n0 v U'.heap L ∧ ReturnedEndW U o U' L 2 16) := by
  refine MetFree.of_bodySF (plainFor_of_name pn_4) hisR ?_
  intro p e s m args below meth c s₁ Bd hml0 hP hK
  obtain ⟨rfl, hUZ⟩ := hP
  have hZ : Z.Warmed39 s.vm := by rw [hUZ]; exact State.Warmed39.refl Z
  have hh : s.heap = h0 := by rw [hUZ]; exact hZh
  have hI : IB Z s.vm [] := by rw [hUZ]; exact IB.start
  have hkeep : ∀ (b : Addr) (cl : Cell), Z.heap[b]? = some cl → s.heap[b]? = some cl := fun b cl q => by rw [hUZ]; exact q
  have hx := Bd.exec
  have hby := Bd.bytes
  have hml : c.maxLocals = 6 := hml0
  have hown : s.vm.findClass x.cls = some m.cls := findClass_of_methodNamed Bd.named
  have hnm := (name_of_methodNamed Bd.named Bd.method).1
  have X0 : Stand p l e room_1 s m #[(.int p0), (.int p1)] below meth c s₁ [] 0 0 := Stand.of_body Bd
  have e0 : s₁.heap = h0 := by rw [← hh, Bd.state]; rfl
  have N0 := Fr.nil n0
  have pre0 : ∀ t, Steps p.tables e below (s₁.setTop (mkF m 0 #[.val (.int p0), .val (.int p1), .unset, .unset, .unset, .unset] [])) t → Steps p.tables e below (s₁.setTop (entryFrame m #[(.int p0), (.int p1)] maxLocals)) t := fun t k => castTop (ef_0 m p0 p1) k
  have pre1 : ∀ t, Steps p.tables e below (s₁.setTop (mkF m 8 #[.val (.int p0), .val (.int p1), .val (.int ((p0 &&& (2147483647 : Int32)) - ((p0 &&& (2147483647 : Int32)) / (7 : Int32)) * (7 : Int32))), .unset, .unset, .unset] [])) t → Steps p.tables e below (s₁.setTop (entryFrame m #[(.int p0), (.int p1)] maxLocals)) t := fun t kt => pre0 t (by
      show Steps p.tables e below (s₁.setTop (mkF m 0 #[.val (.int p0), .val (.int p1), .unset, .unset, .unset, .unset] [])) _
      refine XS.iloadN X0.here hx rfl (hb hby at_0) rfl ?_
      show Steps p.tables e below (s₁.setTop (mkF m 1 #[.val (.int p0), .val (.int p1), .unset, .unset, .unset, .unset] [(.int p0)])) _
      refine X0.ldcI hx hown (mvT hZ (hw _ (List.mem_of_getElem? (i := 0) rfl))) (g := (mkF m 1 #[.val (.int p0), .val (.int p1), .unset, .unset, .unset, .unset] [(.int p0)])) rfl (hb hby at_1) ?_
      show Steps p.tables e below (s₁.setTop (mkF m 3 #[.val (.int p0), .val (.int p1), .unset, .unset, .unset, .unset] [(.int (2147483647 : Int32)), (.int p0)])) _
      refine XS.iand X0.here hx rfl (hb hby at_3) rfl ?_
      show Steps p.tables e below (s₁.setTop (mkF m 4 #[.val (.int p0), .val (.int p1), .unset, .unset, .unset, .unset] [(.int (p0 &&& (2147483647 : Int32)))])) _
      refine XS.bipush X0.here hx rfl (hb hby at_4) ?_
      show Steps p.tables e below (s₁.setTop (mkF m 6 #[.val (.int p0), .val (.int p1), .unset, .unset, .unset, .unset] [(.int (7 : Int32)), (.int (p0 &&& (2147483647 : Int32)))])) _
      refine XS.irem X0.here hx rfl (hb hby at_6) rfl (by decide) ?_
      show Steps p.tables e below (s₁.setTop (mkF m 7 #[.val (.int p0), .val (.int p1), .unset, .unset, .unset, .unset] [(.int ((p0 &&& (2147483647 : Int32)) - ((p0 &&& (2147483647 : Int32)) / (7 : Int32)) * (7 : Int32)))])) _
      refine XS.istoreN X0.here hx rfl (hb hby at_7) rfl (l' := #[.val (.int p0), .val (.int p1), .val (.int ((p0 &&& (2147483647 : Int32)) - ((p0 &&& (2147483647 : Int32)) / (7 : Int32)) * (7 : Int32))), .unset, .unset, .unset]) rfl ?_
      exact kt)
  obtain ⟨i, hi⟩ : ∃ z : Int32, z = ((p0 &&& (2147483647 : Int32)) - ((p0 &&& (2147483647 : Int32)) / (7 : Int32)) * (7 : Int32)) := ⟨_, rfl⟩
  rw [← hi] at pre1
  have pre2 : ∀ t, Steps p.tables e below (s₁.setTop (mkF m 9 #[.val (.int p0), .val (.int p1), .val (.int i), .unset, .unset, .unset] [(.int i)])) t → Steps p.tables e below (s₁.setTop (entryFrame m #[(.int p0), (.int p1)] maxLocals)) t := fun t kt => pre1 t (by
      show Steps p.tables e below (s₁.setTop (mkF m 8 #[.val (.int p0), .val (.int p1), .val (.int i), .unset, .unset, .unset] [])) _
      refine XS.iloadN X0.here hx rfl (hb hby at_8) rfl ?_
      exact kt)
  by_cases hc9 : i = (0 : Int32)
  · obtain ⟨T3, X3, e3, st3⟩ := getS2 X0 hx hZ hown (host := "") (Or.inl (hw _ (List.mem_of_getElem? (i := 1) rfl))) Via.refl e0 SXFX (g := (mkF m 12 #[.val (.int p0), .val (.int p1), .val (.int i), .unset, .unset, .unset] [])) rfl (hb hby at_12)
    obtain ⟨b4, T4, h4, kk4, bb4, kb4, X4, e4, E4, hS4, hk4, hZ, hown, Ex4, Fc4, Fv4, Av4, la4, lb4, IB4, st4⟩ := ldcSV (s := s) (vm0 := s.vm) (Ts := []) (Z := Z) (a0 := a0) (k0 := 0) X3 hx hZ hown (hw _ (List.mem_of_getElem? (i := 4) rfl)) wS e3 ((State.WarmedH.refl s).since 0) (Nat.zero_le _) (Fr.nil _) hkeep hI (by simp) (hheld 14 (by simp)) hcw (vs := [(.int (120 : Int32)), (.int (102 : Int32)), (.int (120 : Int32))]) (z := (3 : Int32)) ⟨by decide, rfl⟩ (by decide) rfl (g := (mkF m 16 #[.val (.int p0), .val (.int p1), .val (.int i), .val (.ref uXFX), .unset, .unset] [])) rfl (hb hby at_16) (n := 12) (by decide) (by decide) (by decide) (by decide)
    have f6 := (SC.ext E4)
    have f7 := (SG.ext E4)
    obtain ⟨cq5, kq5, q5a, q5b, q5c⟩ := isOf hZ e4 Ex4
    obtain ⟨_, _, ⟨T5, L5, k5, n5⟩, -, X5, ⟨Lc5, hQ5, l5, y5, z5⟩, st5⟩ := X4.virtualBack hx (y := (⟨"java/lang/String", "charAt", "(I)C"⟩ : MethodName)) (z := (⟨"java/lang/String", "charAt", "(I)C"⟩ : MethodName)) hown (mvT hZ (hw _ (List.mem_of_getElem? (i := 12) rfl))) (mvT hZ (hw _ (List.mem_of_getElem? (i := 13) rfl))) (notFace_of_selects (args := #[]) (mvT hZ (hw _ (List.mem_of_getElem? (i := 15) rfl)))) (mvT hZ (hw _ (List.mem_of_getElem? (i := 15) rfl))) (mvT hZ (hw _ (List.mem_of_getElem? (i := 14) rfl))) (by decide) (backOf (W := 0) (rmCA l Z a0 hw [] b4 bb4 kb4 (3 : Int32) (120 : Int32) iC [(.int (120 : Int32)), (.int (102 : Int32)), (.int (120 : Int32))] vG h4 n0 (Nat.le_trans Z0 E4.1) f6 hC f7 hvG Ex4 Fc4 Fv4 Av4 (by decide) rfl) hZ (hw _ (List.mem_of_getElem? (i := 16) rfl)) (hw _ (List.mem_of_getElem? (i := 5) rfl)) (by decide) (by decide)) q5a q5c (g := (mkF m 114 #[.val (.int p0), .val (.int p1), .val (.int i), .val (.ref uXFX), .val (.ref b4), .unset] [(.int (0 : Int32)), (.ref b4)])) rfl (by rw [hml]; rfl) (Steps.refl _) (argsL := [(.int (0 : Int32))]) (rest := []) (lenOf pd_4 rfl) rfl (by show 2 * 0 + _ ≤ _; exact Nat.le_of_eq rfl) (hb hby at_114) (fun _ _ => ⟨rfl, e4, (by decide : 2 + 0 ≤ _), (by decide : 16 + 0 ≤ _)⟩)
    dsimp only [Pt.U, Pt.locs, Pt.cells, Pt.slots] at X5 l5 y5 z5 st5 hQ5
    subst l5 y5 z5
    obtain ⟨rfl, N5q, e5⟩ := hQ5
    have N5 := Fr.app N0 N5q
    have f9 := (SYFX.ext E4)
    have f10 := (SYF.ext E4)
    have f11 := (EXFX.ext E4)
    obtain ⟨cq8, kq8, q8a, q8b, q8c⟩ := isOf hZ e5 f11
    obtain ⟨_, _, ⟨T8, L8, k8, n8⟩, -, X8, ⟨Lc8, hQ8, l8, y8, z8⟩, st8⟩ := X5.virtualBack hx (y := (⟨site_133.cls, "leftMax", "(I)I"⟩ : MethodName)) (z := (⟨site_133.cls, "leftMax", "(I)I"⟩ : MethodName)) hown (mvT hZ (hw _ (List.mem_of_getElem? (i := 37) rfl))) (mvT hZ (hw _ (List.mem_of_getElem? (i := 38) rfl))) (notFace_of_selects (args := #[]) (mvT hZ (hw _ (List.mem_of_getElem? (i := 40) rfl)))) (mvT hZ (hw _ (List.mem_of_getElem? (i := 40) rfl))) (mvT hZ (hw _ (List.mem_of_getElem? (i := 39) rfl))) (by decide) (backOf (W := 0) (rmLM l Z a0 hw [] uXFX p1 uYFX uYF h4 n0 (Nat.le_trans Z0 E4.1) f9 f10) hZ (hw _ (List.mem_of_getElem? (i := 41) rfl)) (hw _ (List.mem_of_getElem? (i := 2) rfl)) (by decide) (by decide)) q8a q8c (g := (mkF m 133 #[.val (.int p0), .val (.int p1), .val (.int i), .val (.ref uXFX), .val (.ref b4), .val (.int (p1 - (1 : Int32)))] [(.int p1), (.ref uXFX)])) rfl (by rw [hml]; rfl) (Steps.refl _) (argsL := [(.int p1)]) (rest := []) (lenOf pd_5 rfl) rfl (by show 2 * 0 + _ ≤ _; exact Nat.le_of_eq rfl) (hb hby at_133) (fun _ _ => ⟨rfl, e5, (by decide : 2 + 0 ≤ _), (by decide : 16 + 0 ≤ _)⟩)
    dsimp only [Pt.U, Pt.locs, Pt.cells, Pt.slots] at X8 l8 y8 z8 st8 hQ8
    subst l8 y8 z8
    obtain ⟨rfl, N8q, e8⟩ := hQ8
    have N8 := Fr.app N5 N8q
    obtain ⟨fs, hr, hrun, hended, hRW⟩ := X8.leaveW hS4 (by rw [e8]; exact hk4) (v := some (.int (1 : Int32))) (fun h => by rw [Bd.returns] at h; cases h)
    refine ⟨_, _, pre2 _ ?_, hrun, hended, _, _, rfl, ?_, hRW⟩
    · show Steps p.tables e below (s₁.setTop (mkF m 9 #[.val (.int p0), .val (.int p1), .val (.int i), .unset, .unset, .unset] [(.int i)])) _
      refine XS.ifNo X0.here hx rfl (hb hby at_9) rfl ((if0 _ _).trans (teq (show i = (0 : Int32) from hc9)).2) ?_
      show Steps p.tables e below (s₁.setTop (mkF m 12 #[.val (.int p0), .val (.int p1), .val (.int i), .unset, .unset, .unset] [])) _
      refine st3 _ ?_
      show Steps p.tables e below (T3.setTop (mkF m 15 #[.val (.int p0), .val (.int p1), .val (.int i), .unset, .unset, .unset] [(.ref uXFX)])) _
      refine XS.astoreN X3.here hx rfl (hb hby at_15) rfl rfl (l' := #[.val (.int p0), .val (.int p1), .val (.int i), .val (.ref uXFX), .unset, .unset]) rfl ?_
      show Steps p.tables e below (T3.setTop (mkF m 16 #[.val (.int p0), .val (.int p1), .val (.int i), .val (.ref uXFX), .unset, .unset] [])) _
      refine st4 _ ?_
      show Steps p.tables e below (T4.setTop (mkF m 18 #[.val (.int p0), .val (.int p1), .val (.int i), .val (.ref uXFX), .unset, .unset] [(.ref b4)])) _
      refine XS.astore X4.here hx rfl (hb hby at_18) rfl rfl (l' := #[.val (.int p0), .val (.int p1), .val (.int i), .val (.ref uXFX), .val (.ref b4), .unset]) rfl ?_
      show Steps p.tables e below (T4.setTop (mkF m 20 #[.val (.int p0), .val (.int p1), .val (.int i), .val (.ref uXFX), .val (.ref b4), .unset] [])) _
      refine XS.goto X4.here hx rfl (pc0 := 20) (pc' := 111) rfl (hb hby at_20) (by decide) (by decide) ?_
      show Steps p.tables e below (T4.setTop (mkF m 111 #[.val (.int p0), .val (.int p1), .val (.int i), .val (.ref uXFX), .val (.ref b4), .unset] [])) _
      refine XS.aload X4.here hx rfl (hb hby at_111) rfl rfl ?_
      show Steps p.tables e below (T4.setTop (mkF m 113 #[.val (.int p0), .val (.int p1), .val (.int i), .val (.ref uXFX), .val (.ref b4), .unset] [(.ref b4)])) _
      refine XS.iconst X4.here hx rfl (hb hby at_113) ?_
      show Steps p.tables e below (T4.setTop (mkF m 114 #[.val (.int p0), .val (.int p1), .val (.int i), .val (.ref uXFX), .val (.ref b4), .unset] [(.int (0 : Int32)), (.ref b4)])) _
      refine st5.trans ?_
      show Steps p.tables e below (T5.setTop (mkF m 117 #[.val (.int p0), .val (.int p1), .val (.int i), .val (.ref uXFX), .val (.ref b4), .unset] [(.int (ch2 (120 : Int32)))])) _
      refine XS.bipush X5.here hx rfl (hb hby at_117) ?_
      show Steps p.tables e below (T5.setTop (mkF m 119 #[.val (.int p0), .val (.int p1), .val (.int i), .val (.ref uXFX), .val (.ref b4), .unset] [(.int (121 : Int32)), (.int (ch2 (120 : Int32)))])) _
      refine XS.icmpYes X5.here hx rfl (pc0 := 119) (pc' := 126) rfl (hb hby at_119) rfl (feq (show ¬ ((ch2 (120 : Int32)) = (121 : Int32)) from (by decide))).2 (by decide) (by decide) ?_
      show Steps p.tables e below (T5.setTop (mkF m 126 #[.val (.int p0), .val (.int p1), .val (.int i), .val (.ref uXFX), .val (.ref b4), .unset] [])) _
      refine XS.iloadN X5.here hx rfl (hb hby at_126) rfl ?_
      show Steps p.tables e below (T5.setTop (mkF m 127 #[.val (.int p0), .val (.int p1), .val (.int i), .val (.ref uXFX), .val (.ref b4), .unset] [(.int p1)])) _
      refine XS.iconst X5.here hx rfl (hb hby at_127) ?_
      show Steps p.tables e below (T5.setTop (mkF m 128 #[.val (.int p0), .val (.int p1), .val (.int i), .val (.ref uXFX), .val (.ref b4), .unset] [(.int (1 : Int32)), (.int p1)])) _
      refine XS.isub X5.here hx rfl (hb hby at_128) rfl ?_
      show Steps p.tables e below (T5.setTop (mkF m 129 #[.val (.int p0), .val (.int p1), .val (.int i), .val (.ref uXFX), .val (.ref b4), .unset] [(.int (p1 - (1 : Int32)))])) _
      refine XS.istore X5.here hx rfl (hb hby at_129) rfl (l' := #[.val (.int p0), .val (.int p1), .val (.int i), .val (.ref uXFX), .val (.ref b4), .val (.int (p1 - (1 : Int32)))]) rfl ?_
      show Steps p.tables e below (T5.setTop (mkF m 131 #[.val (.int p0), .val (.int p1), .val (.int i), .val (.ref uXFX), .val (.ref b4), .val (.int (p1 - (1 : Int32)))] [])) _
      refine XS.aloadN X5.here hx rfl (hb hby at_131) rfl rfl ?_
      show Steps p.tables e below (T5.setTop (mkF m 132 #[.val (.int p0), .val (.int p1), .val (.int i), .val (.ref uXFX), .val (.ref b4), .val (.int (p1 - (1 : Int32)))] [(.ref uXFX)])) _
      refine XS.iloadN X5.here hx rfl (hb hby at_132) rfl ?_
      show Steps p.tables e below (T5.setTop (mkF m 133 #[.val (.int p0), .val (.int p1), .val (.int i), .val (.ref uXFX), .val (.ref b4), .val (.int (p1 - (1 : Int32)))] [(.int p1), (.ref uXFX)])) _
      refine st8.trans ?_
      show Steps p.tables e below (T8.setTop (mkF m 136 #[.val (.int p0), .val (.int p1), .val (.int i), .val (.ref uXFX), .val (.ref b4), .val (.int (p1 - (1 : Int32)))] [(.int (leftV uXFX uYFX uYF p1))])) _
      refine XS.iload X8.here hx rfl (hb hby at_136) rfl ?_
      show Steps p.tables e below (T8.setTop (mkF m 138 #[.val (.int p0), .val (.int p1), .val (.int i), .val (.ref uXFX), .val (.ref b4), .val (.int (p1 - (1 : Int32)))] [(.int (p1 - (1 : Int32))), (.int (leftV uXFX uYFX uYF p1))])) _
      refine XS.icmpNo X8.here hx rfl (hb hby at_138) rfl (teq (show (leftV uXFX uYFX uYF p1) = (p1 - (1 : Int32)) from (by rw [leftV, if_neg (Fld.ne OXFX OYFX (by decide)), if_neg (Fld.ne OXFX OYF (by decide))]))).2 ?_
      show Steps p.tables e below (T8.setTop (mkF m 141 #[.val (.int p0), .val (.int p1), .val (.int i), .val (.ref uXFX), .val (.ref b4), .val (.int (p1 - (1 : Int32)))] [])) _
      refine XS.iconst X8.here hx rfl (hb hby at_141) ?_
      show Steps p.tables e below (T8.setTop (mkF m 142 #[.val (.int p0), .val (.int p1), .val (.int i), .val (.ref uXFX), .val (.ref b4), .val (.int (p1 - (1 : Int32)))] [(.int (1 : Int32))])) _
      refine XS.goto X8.here hx rfl (pc0 := 142) (pc' := 146) rfl (hb hby at_142) (by decide) (by decide) ?_
      show Steps p.tables e below (T8.setTop (mkF m 146 #[.val (.int p0), .val (.int p1), .val (.int i), .val (.ref uXFX), .val (.ref b4), .val (.int (p1 - (1 : Int32)))] [(.int (1 : Int32))])) _
      exact retN X8 hx (t := .boolean) Bd.returns (by simp) (hb hby at_146) hr
    · show Q0 h0 n0 _ T8.heap _
      rw [e8]
      exact ⟨rfl, N8⟩
  · have pre12 : ∀ t, Steps p.tables e below (s₁.setTop (mkF m 25 #[.val (.int p0), .val (.int p1), .val (.int i), .unset, .unset, .unset] [(.int (1 : Int32)), (.int i)])) t → Steps p.tables e below (s₁.setTop (entryFrame m #[(.int p0), (.int p1)] maxLocals)) t := fun t kt => pre2 t (by
        show Steps p.tables e below (s₁.setTop (mkF m 9 #[.val (.int p0), .val (.int p1), .val (.int i), .unset, .unset, .unset] [(.int i)])) _
        refine XS.ifYes X0.here hx rfl (pc0 := 9) (pc' := 23) rfl (hb hby at_9) rfl ((if0 _ _).trans (feq (show ¬ (i = (0 : Int32)) from hc9)).2) (by decide) (by decide) ?_
        show Steps p.tables e below (s₁.setTop (mkF m 23 #[.val (.int p0), .val (.int p1), .val (.int i), .unset, .unset, .unset] [])) _
        refine XS.iloadN X0.here hx rfl (hb hby at_23) rfl ?_
        show Steps p.tables e below (s₁.setTop (mkF m 24 #[.val (.int p0), .val (.int p1), .val (.int i), .unset, .unset, .unset] [(.int i)])) _
        refine XS.iconst X0.here hx rfl (hb hby at_24) ?_
        exact kt)
    by_cases hc25 : i = (1 : Int32)
    · obtain ⟨T13, X13, e13, st13⟩ := getS2 X0 hx hZ hown (host := "") (Or.inl (hw _ (List.mem_of_getElem? (i := 49) rfl))) Via.refl e0 SXFY (g := (mkF m 28 #[.val (.int p0), .val (.int p1), .val (.int i), .unset, .unset, .unset] [])) rfl (hb hby at_28)
      obtain ⟨b14, T14, h14, kk14, bb14, kb14, X14, e14, E14, hS14, hk14, hZ, hown, Ex14, Fc14, Fv14, Av14, la14, lb14, IB14, st14⟩ := ldcSV (s := s) (vm0 := s.vm) (Ts := []) (Z := Z) (a0 := a0) (k0 := 0) X13 hx hZ hown (hw _ (List.mem_of_getElem? (i := 51) rfl)) wS e13 ((State.WarmedH.refl s).since 0) (Nat.zero_le _) (Fr.nil _) hkeep hI (by simp) (hheld 19 (by simp)) hcw (vs := [(.int (120 : Int32)), (.int (102 : Int32)), (.int (121 : Int32))]) (z := (3 : Int32)) ⟨by decide, rfl⟩ (by decide) rfl (g := (mkF m 32 #[.val (.int p0), .val (.int p1), .val (.int i), .val (.ref uXFY), .unset, .unset] [])) rfl (hb hby at_32) (n := 12) (by decide) (by decide) (by decide) (by decide)
      have f16 := (SC.ext E14)
      have f17 := (SG.ext E14)
      obtain ⟨cq15, kq15, q15a, q15b, q15c⟩ := isOf hZ e14 Ex14
      obtain ⟨_, _, ⟨T15, L15, k15, n15⟩, -, X15, ⟨Lc15, hQ15, l15, y15, z15⟩, st15⟩ := X14.virtualBack hx (y := (⟨"java/lang/String", "charAt", "(I)C"⟩ : MethodName)) (z := (⟨"java/lang/String", "charAt", "(I)C"⟩ : MethodName)) hown (mvT hZ (hw _ (List.mem_of_getElem? (i := 12) rfl))) (mvT hZ (hw _ (List.mem_of_getElem? (i := 13) rfl))) (notFace_of_selects (args := #[]) (mvT hZ (hw _ (List.mem_of_getElem? (i := 15) rfl)))) (mvT hZ (hw _ (List.mem_of_getElem? (i := 15) rfl))) (mvT hZ (hw _ (List.mem_of_getElem? (i := 14) rfl))) (by decide) (backOf (W := 0) (rmCA l Z a0 hw [] b14 bb14 kb14 (3 : Int32) (120 : Int32) iC [(.int (120 : Int32)), (.int (102 : Int32)), (.int (121 : Int32))] vG h14 n0 (Nat.le_trans Z0 E14.1) f16 hC f17 hvG Ex14 Fc14 Fv14 Av14 (by decide) rfl) hZ (hw _ (List.mem_of_getElem? (i := 16) rfl)) (hw _ (List.mem_of_getElem? (i := 5) rfl)) (by decide) (by decide)) q15a q15c (g := (mkF m 114 #[.val (.int p0), .val (.int p1), .val (.int i), .val (.ref uXFY), .val (.ref b14), .unset] [(.int (0 : Int32)), (.ref b14)])) rfl (by rw [hml]; rfl) (Steps.refl _) (argsL := [(.int (0 : Int32))]) (rest := []) (lenOf pd_4 rfl) rfl (by show 2 * 0 + _ ≤ _; exact Nat.le_of_eq rfl) (hb hby at_114) (fun _ _ => ⟨rfl, e14, (by decide : 2 + 0 ≤ _), (by decide : 16 + 0 ≤ _)⟩)
      dsimp only [Pt.U, Pt.locs, Pt.cells, Pt.slots] at X15 l15 y15 z15 st15 hQ15
      subst l15 y15 z15
      obtain ⟨rfl, N15q, e15⟩ := hQ15
      have N15 := Fr.app N0 N15q
      have f19 := (SYFX.ext E14)
      have f20 := (SYF.ext E14)
      have f21 := (EXFY.ext E14)
      obtain ⟨cq18, kq18, q18a, q18b, q18c⟩ := isOf hZ e15 f21
      obtain ⟨_, _, ⟨T18, L18, k18, n18⟩, -, X18, ⟨Lc18, hQ18, l18, y18, z18⟩, st18⟩ := X15.virtualBack hx (y := (⟨site_133.cls, "leftMax", "(I)I"⟩ : MethodName)) (z := (⟨site_133.cls, "leftMax", "(I)I"⟩ : MethodName)) hown (mvT hZ (hw _ (List.mem_of_getElem? (i := 37) rfl))) (mvT hZ (hw _ (List.mem_of_getElem? (i := 38) rfl))) (notFace_of_selects (args := #[]) (mvT hZ (hw _ (List.mem_of_getElem? (i := 40) rfl)))) (mvT hZ (hw _ (List.mem_of_getElem? (i := 40) rfl))) (mvT hZ (hw _ (List.mem_of_getElem? (i := 39) rfl))) (by decide) (backOf (W := 0) (rmLM l Z a0 hw [] uXFY p1 uYFX uYF h14 n0 (Nat.le_trans Z0 E14.1) f19 f20) hZ (hw _ (List.mem_of_getElem? (i := 41) rfl)) (hw _ (List.mem_of_getElem? (i := 2) rfl)) (by decide) (by decide)) q18a q18c (g := (mkF m 133 #[.val (.int p0), .val (.int p1), .val (.int i), .val (.ref uXFY), .val (.ref b14), .val (.int (p1 - (1 : Int32)))] [(.int p1), (.ref uXFY)])) rfl (by rw [hml]; rfl) (Steps.refl _) (argsL := [(.int p1)]) (rest := []) (lenOf pd_5 rfl) rfl (by show 2 * 0 + _ ≤ _; exact Nat.le_of_eq rfl) (hb hby at_133) (fun _ _ => ⟨rfl, e15, (by decide : 2 + 0 ≤ _), (by decide : 16 + 0 ≤ _)⟩)
      dsimp only [Pt.U, Pt.locs, Pt.cells, Pt.slots] at X18 l18 y18 z18 st18 hQ18
      subst l18 y18 z18
      obtain ⟨rfl, N18q, e18⟩ := hQ18
      have N18 := Fr.app N15 N18q
      obtain ⟨fs, hr, hrun, hended, hRW⟩ := X18.leaveW hS14 (by rw [e18]; exact hk14) (v := some (.int (1 : Int32))) (fun h => by rw [Bd.returns] at h; cases h)
      refine ⟨_, _, pre12 _ ?_, hrun, hended, _, _, rfl, ?_, hRW⟩
      · show Steps p.tables e below (s₁.setTop (mkF m 25 #[.val (.int p0), .val (.int p1), .val (.int i), .unset, .unset, .unset] [(.int (1 : Int32)), (.int i)])) _
        refine XS.icmpNo X0.here hx rfl (hb hby at_25) rfl (teq (show i = (1 : Int32) from hc25)).2 ?_
        show Steps p.tables e below (s₁.setTop (mkF m 28 #[.val (.int p0), .val (.int p1), .val (.int i), .unset, .unset, .unset] [])) _
        refine st13 _ ?_
        show Steps p.tables e below (T13.setTop (mkF m 31 #[.val (.int p0), .val (.int p1), .val (.int i), .unset, .unset, .unset] [(.ref uXFY)])) _
        refine XS.astoreN X13.here hx rfl (hb hby at_31) rfl rfl (l' := #[.val (.int p0), .val (.int p1), .val (.int i), .val (.ref uXFY), .unset, .unset]) rfl ?_
        show Steps p.tables e below (T13.setTop (mkF m 32 #[.val (.int p0), .val (.int p1), .val (.int i), .val (.ref uXFY), .unset, .unset] [])) _
        refine st14 _ ?_
        show Steps p.tables e below (T14.setTop (mkF m 34 #[.val (.int p0), .val (.int p1), .val (.int i), .val (.ref uXFY), .unset, .unset] [(.ref b14)])) _
        refine XS.astore X14.here hx rfl (hb hby at_34) rfl rfl (l' := #[.val (.int p0), .val (.int p1), .val (.int i), .val (.ref uXFY), .val (.ref b14), .unset]) rfl ?_
        show Steps p.tables e below (T14.setTop (mkF m 36 #[.val (.int p0), .val (.int p1), .val (.int i), .val (.ref uXFY), .val (.ref b14), .unset] [])) _
        refine XS.goto X14.here hx rfl (pc0 := 36) (pc' := 111) rfl (hb hby at_36) (by decide) (by decide) ?_
        show Steps p.tables e below (T14.setTop (mkF m 111 #[.val (.int p0), .val (.int p1), .val (.int i), .val (.ref uXFY), .val (.ref b14), .unset] [])) _
        refine XS.aload X14.here hx rfl (hb hby at_111) rfl rfl ?_
        show Steps p.tables e below (T14.setTop (mkF m 113 #[.val (.int p0), .val (.int p1), .val (.int i), .val (.ref uXFY), .val (.ref b14), .unset] [(.ref b14)])) _
        refine XS.iconst X14.here hx rfl (hb hby at_113) ?_
        show Steps p.tables e below (T14.setTop (mkF m 114 #[.val (.int p0), .val (.int p1), .val (.int i), .val (.ref uXFY), .val (.ref b14), .unset] [(.int (0 : Int32)), (.ref b14)])) _
        refine st15.trans ?_
        show Steps p.tables e below (T15.setTop (mkF m 117 #[.val (.int p0), .val (.int p1), .val (.int i), .val (.ref uXFY), .val (.ref b14), .unset] [(.int (ch2 (120 : Int32)))])) _
        refine XS.bipush X15.here hx rfl (hb hby at_117) ?_
        show Steps p.tables e below (T15.setTop (mkF m 119 #[.val (.int p0), .val (.int p1), .val (.int i), .val (.ref uXFY), .val (.ref b14), .unset] [(.int (121 : Int32)), (.int (ch2 (120 : Int32)))])) _
        refine XS.icmpYes X15.here hx rfl (pc0 := 119) (pc' := 126) rfl (hb hby at_119) rfl (feq (show ¬ ((ch2 (120 : Int32)) = (121 : Int32)) from (by decide))).2 (by decide) (by decide) ?_
        show Steps p.tables e below (T15.setTop (mkF m 126 #[.val (.int p0), .val (.int p1), .val (.int i), .val (.ref uXFY), .val (.ref b14), .unset] [])) _
        refine XS.iloadN X15.here hx rfl (hb hby at_126) rfl ?_
        show Steps p.tables e below (T15.setTop (mkF m 127 #[.val (.int p0), .val (.int p1), .val (.int i), .val (.ref uXFY), .val (.ref b14), .unset] [(.int p1)])) _
        refine XS.iconst X15.here hx rfl (hb hby at_127) ?_
        show Steps p.tables e below (T15.setTop (mkF m 128 #[.val (.int p0), .val (.int p1), .val (.int i), .val (.ref uXFY), .val (.ref b14), .unset] [(.int (1 : Int32)), (.int p1)])) _
        refine XS.isub X15.here hx rfl (hb hby at_128) rfl ?_
        show Steps p.tables e below (T15.setTop (mkF m 129 #[.val (.int p0), .val (.int p1), .val (.int i), .val (.ref uXFY), .val (.ref b14), .unset] [(.int (p1 - (1 : Int32)))])) _
        refine XS.istore X15.here hx rfl (hb hby at_129) rfl (l' := #[.val (.int p0), .val (.int p1), .val (.int i), .val (.ref uXFY), .val (.ref b14), .val (.int (p1 - (1 : Int32)))]) rfl ?_
        show Steps p.tables e below (T15.setTop (mkF m 131 #[.val (.int p0), .val (.int p1), .val (.int i), .val (.ref uXFY), .val (.ref b14), .val (.int (p1 - (1 : Int32)))] [])) _
        refine XS.aloadN X15.here hx rfl (hb hby at_131) rfl rfl ?_
        show Steps p.tables e below (T15.setTop (mkF m 132 #[.val (.int p0), .val (.int p1), .val (.int i), .val (.ref uXFY), .val (.ref b14), .val (.int (p1 - (1 : Int32)))] [(.ref uXFY)])) _
        refine XS.iloadN X15.here hx rfl (hb hby at_132) rfl ?_
        show Steps p.tables e below (T15.setTop (mkF m 133 #[.val (.int p0), .val (.int p1), .val (.int i), .val (.ref uXFY), .val (.ref b14), .val (.int (p1 - (1 : Int32)))] [(.int p1), (.ref uXFY)])) _
        refine st18.trans ?_
        show Steps p.tables e below (T18.setTop (mkF m 136 #[.val (.int p0), .val (.int p1), .val (.int i), .val (.ref uXFY), .val (.ref b14), .val (.int (p1 - (1 : Int32)))] [(.int (leftV uXFY uYFX uYF p1))])) _
        refine XS.iload X18.here hx rfl (hb hby at_136) rfl ?_
        show Steps p.tables e below (T18.setTop (mkF m 138 #[.val (.int p0), .val (.int p1), .val (.int i), .val (.ref uXFY), .val (.ref b14), .val (.int (p1 - (1 : Int32)))] [(.int (p1 - (1 : Int32))), (.int (leftV uXFY uYFX uYF p1))])) _
        refine XS.icmpNo X18.here hx rfl (hb hby at_138) rfl (teq (show (leftV uXFY uYFX uYF p1) = (p1 - (1 : Int32)) from (by rw [leftV, if_neg (Fld.ne OXFY OYFX (by decide)), if_neg (Fld.ne OXFY OYF (by decide))]))).2 ?_
        show Steps p.tables e below (T18.setTop (mkF m 141 #[.val (.int p0), .val (.int p1), .val (.int i), .val (.ref uXFY), .val (.ref b14), .val (.int (p1 - (1 : Int32)))] [])) _
        refine XS.iconst X18.here hx rfl (hb hby at_141) ?_
        show Steps p.tables e below (T18.setTop (mkF m 142 #[.val (.int p0), .val (.int p1), .val (.int i), .val (.ref uXFY), .val (.ref b14), .val (.int (p1 - (1 : Int32)))] [(.int (1 : Int32))])) _
        refine XS.goto X18.here hx rfl (pc0 := 142) (pc' := 146) rfl (hb hby at_142) (by decide) (by decide) ?_
        show Steps p.tables e below (T18.setTop (mkF m 146 #[.val (.int p0), .val (.int p1), .val (.int i), .val (.ref uXFY), .val (.ref b14), .val (.int (p1 - (1 : Int32)))] [(.int (1 : Int32))])) _
        exact retN X18 hx (t := .boolean) Bd.returns (by simp) (hb hby at_146) hr
      · show Q0 h0 n0 _ T18.heap _
        rw [e18]
        exact ⟨rfl, N18⟩
    · have pre22 : ∀ t, Steps p.tables e below (s₁.setTop (mkF m 41 #[.val (.int p0), .val (.int p1), .val (.int i), .unset, .unset, .unset] [(.int (2 : Int32)), (.int i)])) t → Steps p.tables e below (s₁.setTop (entryFrame m #[(.int p0), (.int p1)] maxLocals)) t := fun t kt => pre12 t (by
          show Steps p.tables e below (s₁.setTop (mkF m 25 #[.val (.int p0), .val (.int p1), .val (.int i), .unset, .unset, .unset] [(.int (1 : Int32)), (.int i)])) _
          refine XS.icmpYes X0.here hx rfl (pc0 := 25) (pc' := 39) rfl (hb hby at_25) rfl (feq (show ¬ (i = (1 : Int32)) from hc25)).2 (by decide) (by decide) ?_
          show Steps p.tables e below (s₁.setTop (mkF m 39 #[.val (.int p0), .val (.int p1), .val (.int i), .unset, .unset, .unset] [])) _
          refine XS.iloadN X0.here hx rfl (hb hby at_39) rfl ?_
          show Steps p.tables e below (s₁.setTop (mkF m 40 #[.val (.int p0), .val (.int p1), .val (.int i), .unset, .unset, .unset] [(.int i)])) _
          refine XS.iconst X0.here hx rfl (hb hby at_40) ?_
          exact kt)
      by_cases hc41 : i = (2 : Int32)
      · obtain ⟨T23, X23, e23, st23⟩ := getS2 X0 hx hZ hown (host := "") (Or.inl (hw _ (List.mem_of_getElem? (i := 60) rfl))) Via.refl e0 SYFX (g := (mkF m 44 #[.val (.int p0), .val (.int p1), .val (.int i), .unset, .unset, .unset] [])) rfl (hb hby at_44)
        obtain ⟨b24, T24, h24, kk24, bb24, kb24, X24, e24, E24, hS24, hk24, hZ, hown, Ex24, Fc24, Fv24, Av24, la24, lb24, IB24, st24⟩ := ldcSV (s := s) (vm0 := s.vm) (Ts := []) (Z := Z) (a0 := a0) (k0 := 0) X23 hx hZ hown (hw _ (List.mem_of_getElem? (i := 61) rfl)) wS e23 ((State.WarmedH.refl s).since 0) (Nat.zero_le _) (Fr.nil _) hkeep hI (by simp) (hheld 24 (by simp)) hcw (vs := [(.int (121 : Int32)), (.int (102 : Int32)), (.int (120 : Int32))]) (z := (3 : Int32)) ⟨by decide, rfl⟩ (by decide) rfl (g := (mkF m 48 #[.val (.int p0), .val (.int p1), .val (.int i), .val (.ref uYFX), .unset, .unset] [])) rfl (hb hby at_48) (n := 12) (by decide) (by decide) (by decide) (by decide)
        have f26 := (SC.ext E24)
        have f27 := (SG.ext E24)
        obtain ⟨cq25, kq25, q25a, q25b, q25c⟩ := isOf hZ e24 Ex24
        obtain ⟨_, _, ⟨T25, L25, k25, n25⟩, -, X25, ⟨Lc25, hQ25, l25, y25, z25⟩, st25⟩ := X24.virtualBack hx (y := (⟨"java/lang/String", "charAt", "(I)C"⟩ : MethodName)) (z := (⟨"java/lang/String", "charAt", "(I)C"⟩ : MethodName)) hown (mvT hZ (hw _ (List.mem_of_getElem? (i := 12) rfl))) (mvT hZ (hw _ (List.mem_of_getElem? (i := 13) rfl))) (notFace_of_selects (args := #[]) (mvT hZ (hw _ (List.mem_of_getElem? (i := 15) rfl)))) (mvT hZ (hw _ (List.mem_of_getElem? (i := 15) rfl))) (mvT hZ (hw _ (List.mem_of_getElem? (i := 14) rfl))) (by decide) (backOf (W := 0) (rmCA l Z a0 hw [] b24 bb24 kb24 (3 : Int32) (121 : Int32) iC [(.int (121 : Int32)), (.int (102 : Int32)), (.int (120 : Int32))] vG h24 n0 (Nat.le_trans Z0 E24.1) f26 hC f27 hvG Ex24 Fc24 Fv24 Av24 (by decide) rfl) hZ (hw _ (List.mem_of_getElem? (i := 16) rfl)) (hw _ (List.mem_of_getElem? (i := 5) rfl)) (by decide) (by decide)) q25a q25c (g := (mkF m 114 #[.val (.int p0), .val (.int p1), .val (.int i), .val (.ref uYFX), .val (.ref b24), .unset] [(.int (0 : Int32)), (.ref b24)])) rfl (by rw [hml]; rfl) (Steps.refl _) (argsL := [(.int (0 : Int32))]) (rest := []) (lenOf pd_4 rfl) rfl (by show 2 * 0 + _ ≤ _; exact Nat.le_of_eq rfl) (hb hby at_114) (fun _ _ => ⟨rfl, e24, (by decide : 2 + 0 ≤ _), (by decide : 16 + 0 ≤ _)⟩)
        dsimp only [Pt.U, Pt.locs, Pt.cells, Pt.slots] at X25 l25 y25 z25 st25 hQ25
        subst l25 y25 z25
        obtain ⟨rfl, N25q, e25⟩ := hQ25
        have N25 := Fr.app N0 N25q
        have f29 := (SYFX.ext E24)
        have f30 := (SYF.ext E24)
        have f31 := (EYFX.ext E24)
        obtain ⟨cq28, kq28, q28a, q28b, q28c⟩ := isOf hZ e25 f31
        obtain ⟨_, _, ⟨T28, L28, k28, n28⟩, -, X28, ⟨Lc28, hQ28, l28, y28, z28⟩, st28⟩ := X25.virtualBack hx (y := (⟨site_133.cls, "leftMax", "(I)I"⟩ : MethodName)) (z := (⟨site_133.cls, "leftMax", "(I)I"⟩ : MethodName)) hown (mvT hZ (hw _ (List.mem_of_getElem? (i := 37) rfl))) (mvT hZ (hw _ (List.mem_of_getElem? (i := 38) rfl))) (notFace_of_selects (args := #[]) (mvT hZ (hw _ (List.mem_of_getElem? (i := 40) rfl)))) (mvT hZ (hw _ (List.mem_of_getElem? (i := 40) rfl))) (mvT hZ (hw _ (List.mem_of_getElem? (i := 39) rfl))) (by decide) (backOf (W := 0) (rmLM l Z a0 hw [] uYFX p1 uYFX uYF h24 n0 (Nat.le_trans Z0 E24.1) f29 f30) hZ (hw _ (List.mem_of_getElem? (i := 41) rfl)) (hw _ (List.mem_of_getElem? (i := 2) rfl)) (by decide) (by decide)) q28a q28c (g := (mkF m 133 #[.val (.int p0), .val (.int p1), .val (.int i), .val (.ref uYFX), .val (.ref b24), .val (.int p1)] [(.int p1), (.ref uYFX)])) rfl (by rw [hml]; rfl) (Steps.refl _) (argsL := [(.int p1)]) (rest := []) (lenOf pd_5 rfl) rfl (by show 2 * 0 + _ ≤ _; exact Nat.le_of_eq rfl) (hb hby at_133) (fun _ _ => ⟨rfl, e25, (by decide : 2 + 0 ≤ _), (by decide : 16 + 0 ≤ _)⟩)
        dsimp only [Pt.U, Pt.locs, Pt.cells, Pt.slots] at X28 l28 y28 z28 st28 hQ28
        subst l28 y28 z28
        obtain ⟨rfl, N28q, e28⟩ := hQ28
        have N28 := Fr.app N25 N28q
        obtain ⟨fs, hr, hrun, hended, hRW⟩ := X28.leaveW hS24 (by rw [e28]; exact hk24) (v := some (.int (1 : Int32))) (fun h => by rw [Bd.returns] at h; cases h)
        refine ⟨_, _, pre22 _ ?_, hrun, hended, _, _, rfl, ?_, hRW⟩
        · show Steps p.tables e below (s₁.setTop (mkF m 41 #[.val (.int p0), .val (.int p1), .val (.int i), .unset, .unset, .unset] [(.int (2 : Int32)), (.int i)])) _
          refine XS.icmpNo X0.here hx rfl (hb hby at_41) rfl (teq (show i = (2 : Int32) from hc41)).2 ?_
          show Steps p.tables e below (s₁.setTop (mkF m 44 #[.val (.int p0), .val (.int p1), .val (.int i), .unset, .unset, .unset] [])) _
          refine st23 _ ?_
          show Steps p.tables e below (T23.setTop (mkF m 47 #[.val (.int p0), .val (.int p1), .val (.int i), .unset, .unset, .unset] [(.ref uYFX)])) _
          refine XS.astoreN X23.here hx rfl (hb hby at_47) rfl rfl (l' := #[.val (.int p0), .val (.int p1), .val (.int i), .val (.ref uYFX), .unset, .unset]) rfl ?_
          show Steps p.tables e below (T23.setTop (mkF m 48 #[.val (.int p0), .val (.int p1), .val (.int i), .val (.ref uYFX), .unset, .unset] [])) _
          refine st24 _ ?_
          show Steps p.tables e below (T24.setTop (mkF m 50 #[.val (.int p0), .val (.int p1), .val (.int i), .val (.ref uYFX), .unset, .unset] [(.ref b24)])) _
          refine XS.astore X24.here hx rfl (hb hby at_50) rfl rfl (l' := #[.val (.int p0), .val (.int p1), .val (.int i), .val (.ref uYFX), .val (.ref b24), .unset]) rfl ?_
          show Steps p.tables e below (T24.setTop (mkF m 52 #[.val (.int p0), .val (.int p1), .val (.int i), .val (.ref uYFX), .val (.ref b24), .unset] [])) _
          refine XS.goto X24.here hx rfl (pc0 := 52) (pc' := 111) rfl (hb hby at_52) (by decide) (by decide) ?_
          show Steps p.tables e below (T24.setTop (mkF m 111 #[.val (.int p0), .val (.int p1), .val (.int i), .val (.ref uYFX), .val (.ref b24), .unset] [])) _
          refine XS.aload X24.here hx rfl (hb hby at_111) rfl rfl ?_
          show Steps p.tables e below (T24.setTop (mkF m 113 #[.val (.int p0), .val (.int p1), .val (.int i), .val (.ref uYFX), .val (.ref b24), .unset] [(.ref b24)])) _
          refine XS.iconst X24.here hx rfl (hb hby at_113) ?_
          show Steps p.tables e below (T24.setTop (mkF m 114 #[.val (.int p0), .val (.int p1), .val (.int i), .val (.ref uYFX), .val (.ref b24), .unset] [(.int (0 : Int32)), (.ref b24)])) _
          refine st25.trans ?_
          show Steps p.tables e below (T25.setTop (mkF m 117 #[.val (.int p0), .val (.int p1), .val (.int i), .val (.ref uYFX), .val (.ref b24), .unset] [(.int (ch2 (121 : Int32)))])) _
          refine XS.bipush X25.here hx rfl (hb hby at_117) ?_
          show Steps p.tables e below (T25.setTop (mkF m 119 #[.val (.int p0), .val (.int p1), .val (.int i), .val (.ref uYFX), .val (.ref b24), .unset] [(.int (121 : Int32)), (.int (ch2 (121 : Int32)))])) _
          refine XS.icmpNo X25.here hx rfl (hb hby at_119) rfl (teq (show (ch2 (121 : Int32)) = (121 : Int32) from (by decide))).2 ?_
          show Steps p.tables e below (T25.setTop (mkF m 122 #[.val (.int p0), .val (.int p1), .val (.int i), .val (.ref uYFX), .val (.ref b24), .unset] [])) _
          refine XS.iloadN X25.here hx rfl (hb hby at_122) rfl ?_
          show Steps p.tables e below (T25.setTop (mkF m 123 #[.val (.int p0), .val (.int p1), .val (.int i), .val (.ref uYFX), .val (.ref b24), .unset] [(.int p1)])) _
          refine XS.goto X25.here hx rfl (pc0 := 123) (pc' := 129) rfl (hb hby at_123) (by decide) (by decide) ?_
          show Steps p.tables e below (T25.setTop (mkF m 129 #[.val (.int p0), .val (.int p1), .val (.int i), .val (.ref uYFX), .val (.ref b24), .unset] [(.int p1)])) _
          refine XS.istore X25.here hx rfl (hb hby at_129) rfl (l' := #[.val (.int p0), .val (.int p1), .val (.int i), .val (.ref uYFX), .val (.ref b24), .val (.int p1)]) rfl ?_
          show Steps p.tables e below (T25.setTop (mkF m 131 #[.val (.int p0), .val (.int p1), .val (.int i), .val (.ref uYFX), .val (.ref b24), .val (.int p1)] [])) _
          refine XS.aloadN X25.here hx rfl (hb hby at_131) rfl rfl ?_
          show Steps p.tables e below (T25.setTop (mkF m 132 #[.val (.int p0), .val (.int p1), .val (.int i), .val (.ref uYFX), .val (.ref b24), .val (.int p1)] [(.ref uYFX)])) _
          refine XS.iloadN X25.here hx rfl (hb hby at_132) rfl ?_
          show Steps p.tables e below (T25.setTop (mkF m 133 #[.val (.int p0), .val (.int p1), .val (.int i), .val (.ref uYFX), .val (.ref b24), .val (.int p1)] [(.int p1), (.ref uYFX)])) _
          refine st28.trans ?_
          show Steps p.tables e below (T28.setTop (mkF m 136 #[.val (.int p0), .val (.int p1), .val (.int i), .val (.ref uYFX), .val (.ref b24), .val (.int p1)] [(.int (leftV uYFX uYFX uYF p1))])) _
          refine XS.iload X28.here hx rfl (hb hby at_136) rfl ?_
          show Steps p.tables e below (T28.setTop (mkF m 138 #[.val (.int p0), .val (.int p1), .val (.int i), .val (.ref uYFX), .val (.ref b24), .val (.int p1)] [(.int p1), (.int (leftV uYFX uYFX uYF p1))])) _
          refine XS.icmpNo X28.here hx rfl (hb hby at_138) rfl (teq (show (leftV uYFX uYFX uYF p1) = p1 from (by rw [leftV, if_pos rfl]))).2 ?_
          show Steps p.tables e below (T28.setTop (mkF m 141 #[.val (.int p0), .val (.int p1), .val (.int i), .val (.ref uYFX), .val (.ref b24), .val (.int p1)] [])) _
          refine XS.iconst X28.here hx rfl (hb hby at_141) ?_
          show Steps p.tables e below (T28.setTop (mkF m 142 #[.val (.int p0), .val (.int p1), .val (.int i), .val (.ref uYFX), .val (.ref b24), .val (.int p1)] [(.int (1 : Int32))])) _
          refine XS.goto X28.here hx rfl (pc0 := 142) (pc' := 146) rfl (hb hby at_142) (by decide) (by decide) ?_
          show Steps p.tables e below (T28.setTop (mkF m 146 #[.val (.int p0), .val (.int p1), .val (.int i), .val (.ref uYFX), .val (.ref b24), .val (.int p1)] [(.int (1 : Int32))])) _
          exact retN X28 hx (t := .boolean) Bd.returns (by simp) (hb hby at_146) hr
        · show Q0 h0 n0 _ T28.heap _
          rw [e28]
          exact ⟨rfl, N28⟩
      · have pre32 : ∀ t, Steps p.tables e below (s₁.setTop (mkF m 57 #[.val (.int p0), .val (.int p1), .val (.int i), .unset, .unset, .unset] [(.int (3 : Int32)), (.int i)])) t → Steps p.tables e below (s₁.setTop (entryFrame m #[(.int p0), (.int p1)] maxLocals)) t := fun t kt => pre22 t (by
            show Steps p.tables e below (s₁.setTop (mkF m 41 #[.val (.int p0), .val (.int p1), .val (.int i), .unset, .unset, .unset] [(.int (2 : Int32)), (.int i)])) _
            refine XS.icmpYes X0.here hx rfl (pc0 := 41) (pc' := 55) rfl (hb hby at_41) rfl (feq (show ¬ (i = (2 : Int32)) from hc41)).2 (by decide) (by decide) ?_
            show Steps p.tables e below (s₁.setTop (mkF m 55 #[.val (.int p0), .val (.int p1), .val (.int i), .unset, .unset, .unset] [])) _
            refine XS.iloadN X0.here hx rfl (hb hby at_55) rfl ?_
            show Steps p.tables e below (s₁.setTop (mkF m 56 #[.val (.int p0), .val (.int p1), .val (.int i), .unset, .unset, .unset] [(.int i)])) _
            refine XS.iconst X0.here hx rfl (hb hby at_56) ?_
            exact kt)
        by_cases hc57 : i = (3 : Int32)
        · obtain ⟨T33, X33, e33, st33⟩ := getS2 X0 hx hZ hown (host := "") (Or.inl (hw _ (List.mem_of_getElem? (i := 46) rfl))) Via.refl e0 SFX (g := (mkF m 60 #[.val (.int p0), .val (.int p1), .val (.int i), .unset, .unset, .unset] [])) rfl (hb hby at_60)
          obtain ⟨b34, T34, h34, kk34, bb34, kb34, X34, e34, E34, hS34, hk34, hZ, hown, Ex34, Fc34, Fv34, Av34, la34, lb34, IB34, st34⟩ := ldcSV (s := s) (vm0 := s.vm) (Ts := []) (Z := Z) (a0 := a0) (k0 := 0) X33 hx hZ hown (hw _ (List.mem_of_getElem? (i := 48) rfl)) wS e33 ((State.WarmedH.refl s).since 0) (Nat.zero_le _) (Fr.nil _) hkeep hI (by simp) (hheld 29 (by simp)) hcw (vs := [(.int (102 : Int32)), (.int (120 : Int32))]) (z := (2 : Int32)) ⟨by decide, rfl⟩ (by decide) rfl (g := (mkF m 64 #[.val (.int p0), .val (.int p1), .val (.int i), .val (.ref uFX), .unset, .unset] [])) rfl (hb hby at_64) (n := 12) (by decide) (by decide) (by decide) (by decide)
          have f36 := (SC.ext E34)
          have f37 := (SG.ext E34)
          obtain ⟨cq35, kq35, q35a, q35b, q35c⟩ := isOf hZ e34 Ex34
          obtain ⟨_, _, ⟨T35, L35, k35, n35⟩, -, X35, ⟨Lc35, hQ35, l35, y35, z35⟩, st35⟩ := X34.virtualBack hx (y := (⟨"java/lang/String", "charAt", "(I)C"⟩ : MethodName)) (z := (⟨"java/lang/String", "charAt", "(I)C"⟩ : MethodName)) hown (mvT hZ (hw _ (List.mem_of_getElem? (i := 12) rfl))) (mvT hZ (hw _ (List.mem_of_getElem? (i := 13) rfl))) (notFace_of_selects (args := #[]) (mvT hZ (hw _ (List.mem_of_getElem? (i := 15) rfl)))) (mvT hZ (hw _ (List.mem_of_getElem? (i := 15) rfl))) (mvT hZ (hw _ (List.mem_of_getElem? (i := 14) rfl))) (by decide) (backOf (W := 0) (rmCA l Z a0 hw [] b34 bb34 kb34 (2 : Int32) (102 : Int32) iC [(.int (102 : Int32)), (.int (120 : Int32))] vG h34 n0 (Nat.le_trans Z0 E34.1) f36 hC f37 hvG Ex34 Fc34 Fv34 Av34 (by decide) rfl) hZ (hw _ (List.mem_of_getElem? (i := 16) rfl)) (hw _ (List.mem_of_getElem? (i := 5) rfl)) (by decide) (by decide)) q35a q35c (g := (mkF m 114 #[.val (.int p0), .val (.int p1), .val (.int i), .val (.ref uFX), .val (.ref b34), .unset] [(.int (0 : Int32)), (.ref b34)])) rfl (by rw [hml]; rfl) (Steps.refl _) (argsL := [(.int (0 : Int32))]) (rest := []) (lenOf pd_4 rfl) rfl (by show 2 * 0 + _ ≤ _; exact Nat.le_of_eq rfl) (hb hby at_114) (fun _ _ => ⟨rfl, e34, (by decide : 2 + 0 ≤ _), (by decide : 16 + 0 ≤ _)⟩)
          dsimp only [Pt.U, Pt.locs, Pt.cells, Pt.slots] at X35 l35 y35 z35 st35 hQ35
          subst l35 y35 z35
          obtain ⟨rfl, N35q, e35⟩ := hQ35
          have N35 := Fr.app N0 N35q
          have f39 := (SYFX.ext E34)
          have f40 := (SYF.ext E34)
          have f41 := (EFX.ext E34)
          obtain ⟨cq38, kq38, q38a, q38b, q38c⟩ := isOf hZ e35 f41
          obtain ⟨_, _, ⟨T38, L38, k38, n38⟩, -, X38, ⟨Lc38, hQ38, l38, y38, z38⟩, st38⟩ := X35.virtualBack hx (y := (⟨site_133.cls, "leftMax", "(I)I"⟩ : MethodName)) (z := (⟨site_133.cls, "leftMax", "(I)I"⟩ : MethodName)) hown (mvT hZ (hw _ (List.mem_of_getElem? (i := 37) rfl))) (mvT hZ (hw _ (List.mem_of_getElem? (i := 38) rfl))) (notFace_of_selects (args := #[]) (mvT hZ (hw _ (List.mem_of_getElem? (i := 40) rfl)))) (mvT hZ (hw _ (List.mem_of_getElem? (i := 40) rfl))) (mvT hZ (hw _ (List.mem_of_getElem? (i := 39) rfl))) (by decide) (backOf (W := 0) (rmLM l Z a0 hw [] uFX p1 uYFX uYF h34 n0 (Nat.le_trans Z0 E34.1) f39 f40) hZ (hw _ (List.mem_of_getElem? (i := 41) rfl)) (hw _ (List.mem_of_getElem? (i := 2) rfl)) (by decide) (by decide)) q38a q38c (g := (mkF m 133 #[.val (.int p0), .val (.int p1), .val (.int i), .val (.ref uFX), .val (.ref b34), .val (.int (p1 - (1 : Int32)))] [(.int p1), (.ref uFX)])) rfl (by rw [hml]; rfl) (Steps.refl _) (argsL := [(.int p1)]) (rest := []) (lenOf pd_5 rfl) rfl (by show 2 * 0 + _ ≤ _; exact Nat.le_of_eq rfl) (hb hby at_133) (fun _ _ => ⟨rfl, e35, (by decide : 2 + 0 ≤ _), (by decide : 16 + 0 ≤ _)⟩)
          dsimp only [Pt.U, Pt.locs, Pt.cells, Pt.slots] at X38 l38 y38 z38 st38 hQ38
          subst l38 y38 z38
          obtain ⟨rfl, N38q, e38⟩ := hQ38
          have N38 := Fr.app N35 N38q
          obtain ⟨fs, hr, hrun, hended, hRW⟩ := X38.leaveW hS34 (by rw [e38]; exact hk34) (v := some (.int (1 : Int32))) (fun h => by rw [Bd.returns] at h; cases h)
          refine ⟨_, _, pre32 _ ?_, hrun, hended, _, _, rfl, ?_, hRW⟩
          · show Steps p.tables e below (s₁.setTop (mkF m 57 #[.val (.int p0), .val (.int p1), .val (.int i), .unset, .unset, .unset] [(.int (3 : Int32)), (.int i)])) _
            refine XS.icmpNo X0.here hx rfl (hb hby at_57) rfl (teq (show i = (3 : Int32) from hc57)).2 ?_
            show Steps p.tables e below (s₁.setTop (mkF m 60 #[.val (.int p0), .val (.int p1), .val (.int i), .unset, .unset, .unset] [])) _
            refine st33 _ ?_
            show Steps p.tables e below (T33.setTop (mkF m 63 #[.val (.int p0), .val (.int p1), .val (.int i), .unset, .unset, .unset] [(.ref uFX)])) _
            refine XS.astoreN X33.here hx rfl (hb hby at_63) rfl rfl (l' := #[.val (.int p0), .val (.int p1), .val (.int i), .val (.ref uFX), .unset, .unset]) rfl ?_
            show Steps p.tables e below (T33.setTop (mkF m 64 #[.val (.int p0), .val (.int p1), .val (.int i), .val (.ref uFX), .unset, .unset] [])) _
            refine st34 _ ?_
            show Steps p.tables e below (T34.setTop (mkF m 66 #[.val (.int p0), .val (.int p1), .val (.int i), .val (.ref uFX), .unset, .unset] [(.ref b34)])) _
            refine XS.astore X34.here hx rfl (hb hby at_66) rfl rfl (l' := #[.val (.int p0), .val (.int p1), .val (.int i), .val (.ref uFX), .val (.ref b34), .unset]) rfl ?_
            show Steps p.tables e below (T34.setTop (mkF m 68 #[.val (.int p0), .val (.int p1), .val (.int i), .val (.ref uFX), .val (.ref b34), .unset] [])) _
            refine XS.goto X34.here hx rfl (pc0 := 68) (pc' := 111) rfl (hb hby at_68) (by decide) (by decide) ?_
            show Steps p.tables e below (T34.setTop (mkF m 111 #[.val (.int p0), .val (.int p1), .val (.int i), .val (.ref uFX), .val (.ref b34), .unset] [])) _
            refine XS.aload X34.here hx rfl (hb hby at_111) rfl rfl ?_
            show Steps p.tables e below (T34.setTop (mkF m 113 #[.val (.int p0), .val (.int p1), .val (.int i), .val (.ref uFX), .val (.ref b34), .unset] [(.ref b34)])) _
            refine XS.iconst X34.here hx rfl (hb hby at_113) ?_
            show Steps p.tables e below (T34.setTop (mkF m 114 #[.val (.int p0), .val (.int p1), .val (.int i), .val (.ref uFX), .val (.ref b34), .unset] [(.int (0 : Int32)), (.ref b34)])) _
            refine st35.trans ?_
            show Steps p.tables e below (T35.setTop (mkF m 117 #[.val (.int p0), .val (.int p1), .val (.int i), .val (.ref uFX), .val (.ref b34), .unset] [(.int (ch2 (102 : Int32)))])) _
            refine XS.bipush X35.here hx rfl (hb hby at_117) ?_
            show Steps p.tables e below (T35.setTop (mkF m 119 #[.val (.int p0), .val (.int p1), .val (.int i), .val (.ref uFX), .val (.ref b34), .unset] [(.int (121 : Int32)), (.int (ch2 (102 : Int32)))])) _
            refine XS.icmpYes X35.here hx rfl (pc0 := 119) (pc' := 126) rfl (hb hby at_119) rfl (feq (show ¬ ((ch2 (102 : Int32)) = (121 : Int32)) from (by decide))).2 (by decide) (by decide) ?_
            show Steps p.tables e below (T35.setTop (mkF m 126 #[.val (.int p0), .val (.int p1), .val (.int i), .val (.ref uFX), .val (.ref b34), .unset] [])) _
            refine XS.iloadN X35.here hx rfl (hb hby at_126) rfl ?_
            show Steps p.tables e below (T35.setTop (mkF m 127 #[.val (.int p0), .val (.int p1), .val (.int i), .val (.ref uFX), .val (.ref b34), .unset] [(.int p1)])) _
            refine XS.iconst X35.here hx rfl (hb hby at_127) ?_
            show Steps p.tables e below (T35.setTop (mkF m 128 #[.val (.int p0), .val (.int p1), .val (.int i), .val (.ref uFX), .val (.ref b34), .unset] [(.int (1 : Int32)), (.int p1)])) _
            refine XS.isub X35.here hx rfl (hb hby at_128) rfl ?_
            show Steps p.tables e below (T35.setTop (mkF m 129 #[.val (.int p0), .val (.int p1), .val (.int i), .val (.ref uFX), .val (.ref b34), .unset] [(.int (p1 - (1 : Int32)))])) _
            refine XS.istore X35.here hx rfl (hb hby at_129) rfl (l' := #[.val (.int p0), .val (.int p1), .val (.int i), .val (.ref uFX), .val (.ref b34), .val (.int (p1 - (1 : Int32)))]) rfl ?_
            show Steps p.tables e below (T35.setTop (mkF m 131 #[.val (.int p0), .val (.int p1), .val (.int i), .val (.ref uFX), .val (.ref b34), .val (.int (p1 - (1 : Int32)))] [])) _
            refine XS.aloadN X35.here hx rfl (hb hby at_131) rfl rfl ?_
            show Steps p.tables e below (T35.setTop (mkF m 132 #[.val (.int p0), .val (.int p1), .val (.int i), .val (.ref uFX), .val (.ref b34), .val (.int (p1 - (1 : Int32)))] [(.ref uFX)])) _
            refine XS.iloadN X35.here hx rfl (hb hby at_132) rfl ?_
            show Steps p.tables e below (T35.setTop (mkF m 133 #[.val (.int p0), .val (.int p1), .val (.int i), .val (.ref uFX), .val (.ref b34), .val (.int (p1 - (1 : Int32)))] [(.int p1), (.ref uFX)])) _
            refine st38.trans ?_
            show Steps p.tables e below (T38.setTop (mkF m 136 #[.val (.int p0), .val (.int p1), .val (.int i), .val (.ref uFX), .val (.ref b34), .val (.int (p1 - (1 : Int32)))] [(.int (leftV uFX uYFX uYF p1))])) _
            refine XS.iload X38.here hx rfl (hb hby at_136) rfl ?_
            show Steps p.tables e below (T38.setTop (mkF m 138 #[.val (.int p0), .val (.int p1), .val (.int i), .val (.ref uFX), .val (.ref b34), .val (.int (p1 - (1 : Int32)))] [(.int (p1 - (1 : Int32))), (.int (leftV uFX uYFX uYF p1))])) _
            refine XS.icmpNo X38.here hx rfl (hb hby at_138) rfl (teq (show (leftV uFX uYFX uYF p1) = (p1 - (1 : Int32)) from (by rw [leftV, if_neg (Fld.ne OFX OYFX (by decide)), if_neg (Fld.ne OFX OYF (by decide))]))).2 ?_
            show Steps p.tables e below (T38.setTop (mkF m 141 #[.val (.int p0), .val (.int p1), .val (.int i), .val (.ref uFX), .val (.ref b34), .val (.int (p1 - (1 : Int32)))] [])) _
            refine XS.iconst X38.here hx rfl (hb hby at_141) ?_
            show Steps p.tables e below (T38.setTop (mkF m 142 #[.val (.int p0), .val (.int p1), .val (.int i), .val (.ref uFX), .val (.ref b34), .val (.int (p1 - (1 : Int32)))] [(.int (1 : Int32))])) _
            refine XS.goto X38.here hx rfl (pc0 := 142) (pc' := 146) rfl (hb hby at_142) (by decide) (by decide) ?_
            show Steps p.tables e below (T38.setTop (mkF m 146 #[.val (.int p0), .val (.int p1), .val (.int i), .val (.ref uFX), .val (.ref b34), .val (.int (p1 - (1 : Int32)))] [(.int (1 : Int32))])) _
            exact retN X38 hx (t := .boolean) Bd.returns (by simp) (hb hby at_146) hr
          · show Q0 h0 n0 _ T38.heap _
            rw [e38]
            exact ⟨rfl, N38⟩
        · have pre42 : ∀ t, Steps p.tables e below (s₁.setTop (mkF m 73 #[.val (.int p0), .val (.int p1), .val (.int i), .unset, .unset, .unset] [(.int (4 : Int32)), (.int i)])) t → Steps p.tables e below (s₁.setTop (entryFrame m #[(.int p0), (.int p1)] maxLocals)) t := fun t kt => pre32 t (by
              show Steps p.tables e below (s₁.setTop (mkF m 57 #[.val (.int p0), .val (.int p1), .val (.int i), .unset, .unset, .unset] [(.int (3 : Int32)), (.int i)])) _
              refine XS.icmpYes X0.here hx rfl (pc0 := 57) (pc' := 71) rfl (hb hby at_57) rfl (feq (show ¬ (i = (3 : Int32)) from hc57)).2 (by decide) (by decide) ?_
              show Steps p.tables e below (s₁.setTop (mkF m 71 #[.val (.int p0), .val (.int p1), .val (.int i), .unset, .unset, .unset] [])) _
              refine XS.iloadN X0.here hx rfl (hb hby at_71) rfl ?_
              show Steps p.tables e below (s₁.setTop (mkF m 72 #[.val (.int p0), .val (.int p1), .val (.int i), .unset, .unset, .unset] [(.int i)])) _
              refine XS.iconst X0.here hx rfl (hb hby at_72) ?_
              exact kt)
          by_cases hc73 : i = (4 : Int32)
          · obtain ⟨T43, X43, e43, st43⟩ := getS2 X0 hx hZ hown (host := "") (Or.inl (hw _ (List.mem_of_getElem? (i := 52) rfl))) Via.refl e0 SFY (g := (mkF m 76 #[.val (.int p0), .val (.int p1), .val (.int i), .unset, .unset, .unset] [])) rfl (hb hby at_76)
            obtain ⟨b44, T44, h44, kk44, bb44, kb44, X44, e44, E44, hS44, hk44, hZ, hown, Ex44, Fc44, Fv44, Av44, la44, lb44, IB44, st44⟩ := ldcSV (s := s) (vm0 := s.vm) (Ts := []) (Z := Z) (a0 := a0) (k0 := 0) X43 hx hZ hown (hw _ (List.mem_of_getElem? (i := 54) rfl)) wS e43 ((State.WarmedH.refl s).since 0) (Nat.zero_le _) (Fr.nil _) hkeep hI (by simp) (hheld 34 (by simp)) hcw (vs := [(.int (102 : Int32)), (.int (121 : Int32))]) (z := (2 : Int32)) ⟨by decide, rfl⟩ (by decide) rfl (g := (mkF m 80 #[.val (.int p0), .val (.int p1), .val (.int i), .val (.ref uFY), .unset, .unset] [])) rfl (hb hby at_80) (n := 12) (by decide) (by decide) (by decide) (by decide)
            have f46 := (SC.ext E44)
            have f47 := (SG.ext E44)
            obtain ⟨cq45, kq45, q45a, q45b, q45c⟩ := isOf hZ e44 Ex44
            obtain ⟨_, _, ⟨T45, L45, k45, n45⟩, -, X45, ⟨Lc45, hQ45, l45, y45, z45⟩, st45⟩ := X44.virtualBack hx (y := (⟨"java/lang/String", "charAt", "(I)C"⟩ : MethodName)) (z := (⟨"java/lang/String", "charAt", "(I)C"⟩ : MethodName)) hown (mvT hZ (hw _ (List.mem_of_getElem? (i := 12) rfl))) (mvT hZ (hw _ (List.mem_of_getElem? (i := 13) rfl))) (notFace_of_selects (args := #[]) (mvT hZ (hw _ (List.mem_of_getElem? (i := 15) rfl)))) (mvT hZ (hw _ (List.mem_of_getElem? (i := 15) rfl))) (mvT hZ (hw _ (List.mem_of_getElem? (i := 14) rfl))) (by decide) (backOf (W := 0) (rmCA l Z a0 hw [] b44 bb44 kb44 (2 : Int32) (102 : Int32) iC [(.int (102 : Int32)), (.int (121 : Int32))] vG h44 n0 (Nat.le_trans Z0 E44.1) f46 hC f47 hvG Ex44 Fc44 Fv44 Av44 (by decide) rfl) hZ (hw _ (List.mem_of_getElem? (i := 16) rfl)) (hw _ (List.mem_of_getElem? (i := 5) rfl)) (by decide) (by decide)) q45a q45c (g := (mkF m 114 #[.val (.int p0), .val (.int p1), .val (.int i), .val (.ref uFY), .val (.ref b44), .unset] [(.int (0 : Int32)), (.ref b44)])) rfl (by rw [hml]; rfl) (Steps.refl _) (argsL := [(.int (0 : Int32))]) (rest := []) (lenOf pd_4 rfl) rfl (by show 2 * 0 + _ ≤ _; exact Nat.le_of_eq rfl) (hb hby at_114) (fun _ _ => ⟨rfl, e44, (by decide : 2 + 0 ≤ _), (by decide : 16 + 0 ≤ _)⟩)
            dsimp only [Pt.U, Pt.locs, Pt.cells, Pt.slots] at X45 l45 y45 z45 st45 hQ45
            subst l45 y45 z45
            obtain ⟨rfl, N45q, e45⟩ := hQ45
            have N45 := Fr.app N0 N45q
            have f49 := (SYFX.ext E44)
            have f50 := (SYF.ext E44)
            have f51 := (EFY.ext E44)
            obtain ⟨cq48, kq48, q48a, q48b, q48c⟩ := isOf hZ e45 f51
            obtain ⟨_, _, ⟨T48, L48, k48, n48⟩, -, X48, ⟨Lc48, hQ48, l48, y48, z48⟩, st48⟩ := X45.virtualBack hx (y := (⟨site_133.cls, "leftMax", "(I)I"⟩ : MethodName)) (z := (⟨site_133.cls, "leftMax", "(I)I"⟩ : MethodName)) hown (mvT hZ (hw _ (List.mem_of_getElem? (i := 37) rfl))) (mvT hZ (hw _ (List.mem_of_getElem? (i := 38) rfl))) (notFace_of_selects (args := #[]) (mvT hZ (hw _ (List.mem_of_getElem? (i := 40) rfl)))) (mvT hZ (hw _ (List.mem_of_getElem? (i := 40) rfl))) (mvT hZ (hw _ (List.mem_of_getElem? (i := 39) rfl))) (by decide) (backOf (W := 0) (rmLM l Z a0 hw [] uFY p1 uYFX uYF h44 n0 (Nat.le_trans Z0 E44.1) f49 f50) hZ (hw _ (List.mem_of_getElem? (i := 41) rfl)) (hw _ (List.mem_of_getElem? (i := 2) rfl)) (by decide) (by decide)) q48a q48c (g := (mkF m 133 #[.val (.int p0), .val (.int p1), .val (.int i), .val (.ref uFY), .val (.ref b44), .val (.int (p1 - (1 : Int32)))] [(.int p1), (.ref uFY)])) rfl (by rw [hml]; rfl) (Steps.refl _) (argsL := [(.int p1)]) (rest := []) (lenOf pd_5 rfl) rfl (by show 2 * 0 + _ ≤ _; exact Nat.le_of_eq rfl) (hb hby at_133) (fun _ _ => ⟨rfl, e45, (by decide : 2 + 0 ≤ _), (by decide : 16 + 0 ≤ _)⟩)
            dsimp only [Pt.U, Pt.locs, Pt.cells, Pt.slots] at X48 l48 y48 z48 st48 hQ48
            subst l48 y48 z48
            obtain ⟨rfl, N48q, e48⟩ := hQ48
            have N48 := Fr.app N45 N48q
            obtain ⟨fs, hr, hrun, hended, hRW⟩ := X48.leaveW hS44 (by rw [e48]; exact hk44) (v := some (.int (1 : Int32))) (fun h => by rw [Bd.returns] at h; cases h)
            refine ⟨_, _, pre42 _ ?_, hrun, hended, _, _, rfl, ?_, hRW⟩
            · show Steps p.tables e below (s₁.setTop (mkF m 73 #[.val (.int p0), .val (.int p1), .val (.int i), .unset, .unset, .unset] [(.int (4 : Int32)), (.int i)])) _
              refine XS.icmpNo X0.here hx rfl (hb hby at_73) rfl (teq (show i = (4 : Int32) from hc73)).2 ?_
              show Steps p.tables e below (s₁.setTop (mkF m 76 #[.val (.int p0), .val (.int p1), .val (.int i), .unset, .unset, .unset] [])) _
              refine st43 _ ?_
              show Steps p.tables e below (T43.setTop (mkF m 79 #[.val (.int p0), .val (.int p1), .val (.int i), .unset, .unset, .unset] [(.ref uFY)])) _
              refine XS.astoreN X43.here hx rfl (hb hby at_79) rfl rfl (l' := #[.val (.int p0), .val (.int p1), .val (.int i), .val (.ref uFY), .unset, .unset]) rfl ?_
              show Steps p.tables e below (T43.setTop (mkF m 80 #[.val (.int p0), .val (.int p1), .val (.int i), .val (.ref uFY), .unset, .unset] [])) _
              refine st44 _ ?_
              show Steps p.tables e below (T44.setTop (mkF m 82 #[.val (.int p0), .val (.int p1), .val (.int i), .val (.ref uFY), .unset, .unset] [(.ref b44)])) _
              refine XS.astore X44.here hx rfl (hb hby at_82) rfl rfl (l' := #[.val (.int p0), .val (.int p1), .val (.int i), .val (.ref uFY), .val (.ref b44), .unset]) rfl ?_
              show Steps p.tables e below (T44.setTop (mkF m 84 #[.val (.int p0), .val (.int p1), .val (.int i), .val (.ref uFY), .val (.ref b44), .unset] [])) _
              refine XS.goto X44.here hx rfl (pc0 := 84) (pc' := 111) rfl (hb hby at_84) (by decide) (by decide) ?_
              show Steps p.tables e below (T44.setTop (mkF m 111 #[.val (.int p0), .val (.int p1), .val (.int i), .val (.ref uFY), .val (.ref b44), .unset] [])) _
              refine XS.aload X44.here hx rfl (hb hby at_111) rfl rfl ?_
              show Steps p.tables e below (T44.setTop (mkF m 113 #[.val (.int p0), .val (.int p1), .val (.int i), .val (.ref uFY), .val (.ref b44), .unset] [(.ref b44)])) _
              refine XS.iconst X44.here hx rfl (hb hby at_113) ?_
              show Steps p.tables e below (T44.setTop (mkF m 114 #[.val (.int p0), .val (.int p1), .val (.int i), .val (.ref uFY), .val (.ref b44), .unset] [(.int (0 : Int32)), (.ref b44)])) _
              refine st45.trans ?_
              show Steps p.tables e below (T45.setTop (mkF m 117 #[.val (.int p0), .val (.int p1), .val (.int i), .val (.ref uFY), .val (.ref b44), .unset] [(.int (ch2 (102 : Int32)))])) _
              refine XS.bipush X45.here hx rfl (hb hby at_117) ?_
              show Steps p.tables e below (T45.setTop (mkF m 119 #[.val (.int p0), .val (.int p1), .val (.int i), .val (.ref uFY), .val (.ref b44), .unset] [(.int (121 : Int32)), (.int (ch2 (102 : Int32)))])) _
              refine XS.icmpYes X45.here hx rfl (pc0 := 119) (pc' := 126) rfl (hb hby at_119) rfl (feq (show ¬ ((ch2 (102 : Int32)) = (121 : Int32)) from (by decide))).2 (by decide) (by decide) ?_
              show Steps p.tables e below (T45.setTop (mkF m 126 #[.val (.int p0), .val (.int p1), .val (.int i), .val (.ref uFY), .val (.ref b44), .unset] [])) _
              refine XS.iloadN X45.here hx rfl (hb hby at_126) rfl ?_
              show Steps p.tables e below (T45.setTop (mkF m 127 #[.val (.int p0), .val (.int p1), .val (.int i), .val (.ref uFY), .val (.ref b44), .unset] [(.int p1)])) _
              refine XS.iconst X45.here hx rfl (hb hby at_127) ?_
              show Steps p.tables e below (T45.setTop (mkF m 128 #[.val (.int p0), .val (.int p1), .val (.int i), .val (.ref uFY), .val (.ref b44), .unset] [(.int (1 : Int32)), (.int p1)])) _
              refine XS.isub X45.here hx rfl (hb hby at_128) rfl ?_
              show Steps p.tables e below (T45.setTop (mkF m 129 #[.val (.int p0), .val (.int p1), .val (.int i), .val (.ref uFY), .val (.ref b44), .unset] [(.int (p1 - (1 : Int32)))])) _
              refine XS.istore X45.here hx rfl (hb hby at_129) rfl (l' := #[.val (.int p0), .val (.int p1), .val (.int i), .val (.ref uFY), .val (.ref b44), .val (.int (p1 - (1 : Int32)))]) rfl ?_
              show Steps p.tables e below (T45.setTop (mkF m 131 #[.val (.int p0), .val (.int p1), .val (.int i), .val (.ref uFY), .val (.ref b44), .val (.int (p1 - (1 : Int32)))] [])) _
              refine XS.aloadN X45.here hx rfl (hb hby at_131) rfl rfl ?_
              show Steps p.tables e below (T45.setTop (mkF m 132 #[.val (.int p0), .val (.int p1), .val (.int i), .val (.ref uFY), .val (.ref b44), .val (.int (p1 - (1 : Int32)))] [(.ref uFY)])) _
              refine XS.iloadN X45.here hx rfl (hb hby at_132) rfl ?_
              show Steps p.tables e below (T45.setTop (mkF m 133 #[.val (.int p0), .val (.int p1), .val (.int i), .val (.ref uFY), .val (.ref b44), .val (.int (p1 - (1 : Int32)))] [(.int p1), (.ref uFY)])) _
              refine st48.trans ?_
              show Steps p.tables e below (T48.setTop (mkF m 136 #[.val (.int p0), .val (.int p1), .val (.int i), .val (.ref uFY), .val (.ref b44), .val (.int (p1 - (1 : Int32)))] [(.int (leftV uFY uYFX uYF p1))])) _
              refine XS.iload X48.here hx rfl (hb hby at_136) rfl ?_
              show Steps p.tables e below (T48.setTop (mkF m 138 #[.val (.int p0), .val (.int p1), .val (.int i), .val (.ref uFY), .val (.ref b44), .val (.int (p1 - (1 : Int32)))] [(.int (p1 - (1 : Int32))), (.int (leftV uFY uYFX uYF p1))])) _
              refine XS.icmpNo X48.here hx rfl (hb hby at_138) rfl (teq (show (leftV uFY uYFX uYF p1) = (p1 - (1 : Int32)) from (by rw [leftV, if_neg (Fld.ne OFY OYFX (by decide)), if_neg (Fld.ne OFY OYF (by decide))]))).2 ?_
              show Steps p.tables e below (T48.setTop (mkF m 141 #[.val (.int p0), .val (.int p1), .val (.int i), .val (.ref uFY), .val (.ref b44), .val (.int (p1 - (1 : Int32)))] [])) _
              refine XS.iconst X48.here hx rfl (hb hby at_141) ?_
              show Steps p.tables e below (T48.setTop (mkF m 142 #[.val (.int p0), .val (.int p1), .val (.int i), .val (.ref uFY), .val (.ref b44), .val (.int (p1 - (1 : Int32)))] [(.int (1 : Int32))])) _
              refine XS.goto X48.here hx rfl (pc0 := 142) (pc' := 146) rfl (hb hby at_142) (by decide) (by decide) ?_
              show Steps p.tables e below (T48.setTop (mkF m 146 #[.val (.int p0), .val (.int p1), .val (.int i), .val (.ref uFY), .val (.ref b44), .val (.int (p1 - (1 : Int32)))] [(.int (1 : Int32))])) _
              exact retN X48 hx (t := .boolean) Bd.returns (by simp) (hb hby at_146) hr
            · show Q0 h0 n0 _ T48.heap _
              rw [e48]
              exact ⟨rfl, N48⟩
          · have pre52 : ∀ t, Steps p.tables e below (s₁.setTop (mkF m 89 #[.val (.int p0), .val (.int p1), .val (.int i), .unset, .unset, .unset] [(.int (5 : Int32)), (.int i)])) t → Steps p.tables e below (s₁.setTop (entryFrame m #[(.int p0), (.int p1)] maxLocals)) t := fun t kt => pre42 t (by
                show Steps p.tables e below (s₁.setTop (mkF m 73 #[.val (.int p0), .val (.int p1), .val (.int i), .unset, .unset, .unset] [(.int (4 : Int32)), (.int i)])) _
                refine XS.icmpYes X0.here hx rfl (pc0 := 73) (pc' := 87) rfl (hb hby at_73) rfl (feq (show ¬ (i = (4 : Int32)) from hc73)).2 (by decide) (by decide) ?_
                show Steps p.tables e below (s₁.setTop (mkF m 87 #[.val (.int p0), .val (.int p1), .val (.int i), .unset, .unset, .unset] [])) _
                refine XS.iloadN X0.here hx rfl (hb hby at_87) rfl ?_
                show Steps p.tables e below (s₁.setTop (mkF m 88 #[.val (.int p0), .val (.int p1), .val (.int i), .unset, .unset, .unset] [(.int i)])) _
                refine XS.iconst X0.here hx rfl (hb hby at_88) ?_
                exact kt)
            by_cases hc89 : i = (5 : Int32)
            · obtain ⟨T53, X53, e53, st53⟩ := getS2 X0 hx hZ hown (host := "") (Or.inl (hw _ (List.mem_of_getElem? (i := 57) rfl))) Via.refl e0 SXF (g := (mkF m 92 #[.val (.int p0), .val (.int p1), .val (.int i), .unset, .unset, .unset] [])) rfl (hb hby at_92)
              obtain ⟨b54, T54, h54, kk54, bb54, kb54, X54, e54, E54, hS54, hk54, hZ, hown, Ex54, Fc54, Fv54, Av54, la54, lb54, IB54, st54⟩ := ldcSV (s := s) (vm0 := s.vm) (Ts := []) (Z := Z) (a0 := a0) (k0 := 0) X53 hx hZ hown (hw _ (List.mem_of_getElem? (i := 59) rfl)) wS e53 ((State.WarmedH.refl s).since 0) (Nat.zero_le _) (Fr.nil _) hkeep hI (by simp) (hheld 39 (by simp)) hcw (vs := [(.int (120 : Int32)), (.int (102 : Int32))]) (z := (2 : Int32)) ⟨by decide, rfl⟩ (by decide) rfl (g := (mkF m 96 #[.val (.int p0), .val (.int p1), .val (.int i), .val (.ref uXF), .unset, .unset] [])) rfl (hb hby at_96) (n := 12) (by decide) (by decide) (by decide) (by decide)
              have f56 := (SC.ext E54)
              have f57 := (SG.ext E54)
              obtain ⟨cq55, kq55, q55a, q55b, q55c⟩ := isOf hZ e54 Ex54
              obtain ⟨_, _, ⟨T55, L55, k55, n55⟩, -, X55, ⟨Lc55, hQ55, l55, y55, z55⟩, st55⟩ := X54.virtualBack hx (y := (⟨"java/lang/String", "charAt", "(I)C"⟩ : MethodName)) (z := (⟨"java/lang/String", "charAt", "(I)C"⟩ : MethodName)) hown (mvT hZ (hw _ (List.mem_of_getElem? (i := 12) rfl))) (mvT hZ (hw _ (List.mem_of_getElem? (i := 13) rfl))) (notFace_of_selects (args := #[]) (mvT hZ (hw _ (List.mem_of_getElem? (i := 15) rfl)))) (mvT hZ (hw _ (List.mem_of_getElem? (i := 15) rfl))) (mvT hZ (hw _ (List.mem_of_getElem? (i := 14) rfl))) (by decide) (backOf (W := 0) (rmCA l Z a0 hw [] b54 bb54 kb54 (2 : Int32) (120 : Int32) iC [(.int (120 : Int32)), (.int (102 : Int32))] vG h54 n0 (Nat.le_trans Z0 E54.1) f56 hC f57 hvG Ex54 Fc54 Fv54 Av54 (by decide) rfl) hZ (hw _ (List.mem_of_getElem? (i := 16) rfl)) (hw _ (List.mem_of_getElem? (i := 5) rfl)) (by decide) (by decide)) q55a q55c (g := (mkF m 114 #[.val (.int p0), .val (.int p1), .val (.int i), .val (.ref uXF), .val (.ref b54), .unset] [(.int (0 : Int32)), (.ref b54)])) rfl (by rw [hml]; rfl) (Steps.refl _) (argsL := [(.int (0 : Int32))]) (rest := []) (lenOf pd_4 rfl) rfl (by show 2 * 0 + _ ≤ _; exact Nat.le_of_eq rfl) (hb hby at_114) (fun _ _ => ⟨rfl, e54, (by decide : 2 + 0 ≤ _), (by decide : 16 + 0 ≤ _)⟩)
              dsimp only [Pt.U, Pt.locs, Pt.cells, Pt.slots] at X55 l55 y55 z55 st55 hQ55
              subst l55 y55 z55
              obtain ⟨rfl, N55q, e55⟩ := hQ55
              have N55 := Fr.app N0 N55q
              have f59 := (SYFX.ext E54)
              have f60 := (SYF.ext E54)
              have f61 := (EXF.ext E54)
              obtain ⟨cq58, kq58, q58a, q58b, q58c⟩ := isOf hZ e55 f61
              obtain ⟨_, _, ⟨T58, L58, k58, n58⟩, -, X58, ⟨Lc58, hQ58, l58, y58, z58⟩, st58⟩ := X55.virtualBack hx (y := (⟨site_133.cls, "leftMax", "(I)I"⟩ : MethodName)) (z := (⟨site_133.cls, "leftMax", "(I)I"⟩ : MethodName)) hown (mvT hZ (hw _ (List.mem_of_getElem? (i := 37) rfl))) (mvT hZ (hw _ (List.mem_of_getElem? (i := 38) rfl))) (notFace_of_selects (args := #[]) (mvT hZ (hw _ (List.mem_of_getElem? (i := 40) rfl)))) (mvT hZ (hw _ (List.mem_of_getElem? (i := 40) rfl))) (mvT hZ (hw _ (List.mem_of_getElem? (i := 39) rfl))) (by decide) (backOf (W := 0) (rmLM l Z a0 hw [] uXF p1 uYFX uYF h54 n0 (Nat.le_trans Z0 E54.1) f59 f60) hZ (hw _ (List.mem_of_getElem? (i := 41) rfl)) (hw _ (List.mem_of_getElem? (i := 2) rfl)) (by decide) (by decide)) q58a q58c (g := (mkF m 133 #[.val (.int p0), .val (.int p1), .val (.int i), .val (.ref uXF), .val (.ref b54), .val (.int (p1 - (1 : Int32)))] [(.int p1), (.ref uXF)])) rfl (by rw [hml]; rfl) (Steps.refl _) (argsL := [(.int p1)]) (rest := []) (lenOf pd_5 rfl) rfl (by show 2 * 0 + _ ≤ _; exact Nat.le_of_eq rfl) (hb hby at_133) (fun _ _ => ⟨rfl, e55, (by decide : 2 + 0 ≤ _), (by decide : 16 + 0 ≤ _)⟩)
              dsimp only [Pt.U, Pt.locs, Pt.cells, Pt.slots] at X58 l58 y58 z58 st58 hQ58
              subst l58 y58 z58
              obtain ⟨rfl, N58q, e58⟩ := hQ58
              have N58 := Fr.app N55 N58q
              obtain ⟨fs, hr, hrun, hended, hRW⟩ := X58.leaveW hS54 (by rw [e58]; exact hk54) (v := some (.int (1 : Int32))) (fun h => by rw [Bd.returns] at h; cases h)
              refine ⟨_, _, pre52 _ ?_, hrun, hended, _, _, rfl, ?_, hRW⟩
              · show Steps p.tables e below (s₁.setTop (mkF m 89 #[.val (.int p0), .val (.int p1), .val (.int i), .unset, .unset, .unset] [(.int (5 : Int32)), (.int i)])) _
                refine XS.icmpNo X0.here hx rfl (hb hby at_89) rfl (teq (show i = (5 : Int32) from hc89)).2 ?_
                show Steps p.tables e below (s₁.setTop (mkF m 92 #[.val (.int p0), .val (.int p1), .val (.int i), .unset, .unset, .unset] [])) _
                refine st53 _ ?_
                show Steps p.tables e below (T53.setTop (mkF m 95 #[.val (.int p0), .val (.int p1), .val (.int i), .unset, .unset, .unset] [(.ref uXF)])) _
                refine XS.astoreN X53.here hx rfl (hb hby at_95) rfl rfl (l' := #[.val (.int p0), .val (.int p1), .val (.int i), .val (.ref uXF), .unset, .unset]) rfl ?_
                show Steps p.tables e below (T53.setTop (mkF m 96 #[.val (.int p0), .val (.int p1), .val (.int i), .val (.ref uXF), .unset, .unset] [])) _
                refine st54 _ ?_
                show Steps p.tables e below (T54.setTop (mkF m 98 #[.val (.int p0), .val (.int p1), .val (.int i), .val (.ref uXF), .unset, .unset] [(.ref b54)])) _
                refine XS.astore X54.here hx rfl (hb hby at_98) rfl rfl (l' := #[.val (.int p0), .val (.int p1), .val (.int i), .val (.ref uXF), .val (.ref b54), .unset]) rfl ?_
                show Steps p.tables e below (T54.setTop (mkF m 100 #[.val (.int p0), .val (.int p1), .val (.int i), .val (.ref uXF), .val (.ref b54), .unset] [])) _
                refine XS.goto X54.here hx rfl (pc0 := 100) (pc' := 111) rfl (hb hby at_100) (by decide) (by decide) ?_
                show Steps p.tables e below (T54.setTop (mkF m 111 #[.val (.int p0), .val (.int p1), .val (.int i), .val (.ref uXF), .val (.ref b54), .unset] [])) _
                refine XS.aload X54.here hx rfl (hb hby at_111) rfl rfl ?_
                show Steps p.tables e below (T54.setTop (mkF m 113 #[.val (.int p0), .val (.int p1), .val (.int i), .val (.ref uXF), .val (.ref b54), .unset] [(.ref b54)])) _
                refine XS.iconst X54.here hx rfl (hb hby at_113) ?_
                show Steps p.tables e below (T54.setTop (mkF m 114 #[.val (.int p0), .val (.int p1), .val (.int i), .val (.ref uXF), .val (.ref b54), .unset] [(.int (0 : Int32)), (.ref b54)])) _
                refine st55.trans ?_
                show Steps p.tables e below (T55.setTop (mkF m 117 #[.val (.int p0), .val (.int p1), .val (.int i), .val (.ref uXF), .val (.ref b54), .unset] [(.int (ch2 (120 : Int32)))])) _
                refine XS.bipush X55.here hx rfl (hb hby at_117) ?_
                show Steps p.tables e below (T55.setTop (mkF m 119 #[.val (.int p0), .val (.int p1), .val (.int i), .val (.ref uXF), .val (.ref b54), .unset] [(.int (121 : Int32)), (.int (ch2 (120 : Int32)))])) _
                refine XS.icmpYes X55.here hx rfl (pc0 := 119) (pc' := 126) rfl (hb hby at_119) rfl (feq (show ¬ ((ch2 (120 : Int32)) = (121 : Int32)) from (by decide))).2 (by decide) (by decide) ?_
                show Steps p.tables e below (T55.setTop (mkF m 126 #[.val (.int p0), .val (.int p1), .val (.int i), .val (.ref uXF), .val (.ref b54), .unset] [])) _
                refine XS.iloadN X55.here hx rfl (hb hby at_126) rfl ?_
                show Steps p.tables e below (T55.setTop (mkF m 127 #[.val (.int p0), .val (.int p1), .val (.int i), .val (.ref uXF), .val (.ref b54), .unset] [(.int p1)])) _
                refine XS.iconst X55.here hx rfl (hb hby at_127) ?_
                show Steps p.tables e below (T55.setTop (mkF m 128 #[.val (.int p0), .val (.int p1), .val (.int i), .val (.ref uXF), .val (.ref b54), .unset] [(.int (1 : Int32)), (.int p1)])) _
                refine XS.isub X55.here hx rfl (hb hby at_128) rfl ?_
                show Steps p.tables e below (T55.setTop (mkF m 129 #[.val (.int p0), .val (.int p1), .val (.int i), .val (.ref uXF), .val (.ref b54), .unset] [(.int (p1 - (1 : Int32)))])) _
                refine XS.istore X55.here hx rfl (hb hby at_129) rfl (l' := #[.val (.int p0), .val (.int p1), .val (.int i), .val (.ref uXF), .val (.ref b54), .val (.int (p1 - (1 : Int32)))]) rfl ?_
                show Steps p.tables e below (T55.setTop (mkF m 131 #[.val (.int p0), .val (.int p1), .val (.int i), .val (.ref uXF), .val (.ref b54), .val (.int (p1 - (1 : Int32)))] [])) _
                refine XS.aloadN X55.here hx rfl (hb hby at_131) rfl rfl ?_
                show Steps p.tables e below (T55.setTop (mkF m 132 #[.val (.int p0), .val (.int p1), .val (.int i), .val (.ref uXF), .val (.ref b54), .val (.int (p1 - (1 : Int32)))] [(.ref uXF)])) _
                refine XS.iloadN X55.here hx rfl (hb hby at_132) rfl ?_
                show Steps p.tables e below (T55.setTop (mkF m 133 #[.val (.int p0), .val (.int p1), .val (.int i), .val (.ref uXF), .val (.ref b54), .val (.int (p1 - (1 : Int32)))] [(.int p1), (.ref uXF)])) _
                refine st58.trans ?_
                show Steps p.tables e below (T58.setTop (mkF m 136 #[.val (.int p0), .val (.int p1), .val (.int i), .val (.ref uXF), .val (.ref b54), .val (.int (p1 - (1 : Int32)))] [(.int (leftV uXF uYFX uYF p1))])) _
                refine XS.iload X58.here hx rfl (hb hby at_136) rfl ?_
                show Steps p.tables e below (T58.setTop (mkF m 138 #[.val (.int p0), .val (.int p1), .val (.int i), .val (.ref uXF), .val (.ref b54), .val (.int (p1 - (1 : Int32)))] [(.int (p1 - (1 : Int32))), (.int (leftV uXF uYFX uYF p1))])) _
                refine XS.icmpNo X58.here hx rfl (hb hby at_138) rfl (teq (show (leftV uXF uYFX uYF p1) = (p1 - (1 : Int32)) from (by rw [leftV, if_neg (Fld.ne OXF OYFX (by decide)), if_neg (Fld.ne OXF OYF (by decide))]))).2 ?_
                show Steps p.tables e below (T58.setTop (mkF m 141 #[.val (.int p0), .val (.int p1), .val (.int i), .val (.ref uXF), .val (.ref b54), .val (.int (p1 - (1 : Int32)))] [])) _
                refine XS.iconst X58.here hx rfl (hb hby at_141) ?_
                show Steps p.tables e below (T58.setTop (mkF m 142 #[.val (.int p0), .val (.int p1), .val (.int i), .val (.ref uXF), .val (.ref b54), .val (.int (p1 - (1 : Int32)))] [(.int (1 : Int32))])) _
                refine XS.goto X58.here hx rfl (pc0 := 142) (pc' := 146) rfl (hb hby at_142) (by decide) (by decide) ?_
                show Steps p.tables e below (T58.setTop (mkF m 146 #[.val (.int p0), .val (.int p1), .val (.int i), .val (.ref uXF), .val (.ref b54), .val (.int (p1 - (1 : Int32)))] [(.int (1 : Int32))])) _
                exact retN X58 hx (t := .boolean) Bd.returns (by simp) (hb hby at_146) hr
              · show Q0 h0 n0 _ T58.heap _
                rw [e58]
                exact ⟨rfl, N58⟩
            · obtain ⟨T62, X62, e62, st62⟩ := getS2 X0 hx hZ hown (host := "") (Or.inl (hw _ (List.mem_of_getElem? (i := 55) rfl))) Via.refl e0 SYF (g := (mkF m 103 #[.val (.int p0), .val (.int p1), .val (.int i), .unset, .unset, .unset] [])) rfl (hb hby at_103)
              obtain ⟨b63, T63, h63, kk63, bb63, kb63, X63, e63, E63, hS63, hk63, hZ, hown, Ex63, Fc63, Fv63, Av63, la63, lb63, IB63, st63⟩ := ldcSV (s := s) (vm0 := s.vm) (Ts := []) (Z := Z) (a0 := a0) (k0 := 0) X62 hx hZ hown (hw _ (List.mem_of_getElem? (i := 56) rfl)) wS e62 ((State.WarmedH.refl s).since 0) (Nat.zero_le _) (Fr.nil _) hkeep hI (by simp) (hheld 44 (by simp)) hcw (vs := [(.int (121 : Int32)), (.int (102 : Int32))]) (z := (2 : Int32)) ⟨by decide, rfl⟩ (by decide) rfl (g := (mkF m 107 #[.val (.int p0), .val (.int p1), .val (.int i), .val (.ref uYF), .unset, .unset] [])) rfl (hb hby at_107) (n := 12) (by decide) (by decide) (by decide) (by decide)
              have f65 := (SC.ext E63)
              have f66 := (SG.ext E63)
              obtain ⟨cq64, kq64, q64a, q64b, q64c⟩ := isOf hZ e63 Ex63
              obtain ⟨_, _, ⟨T64, L64, k64, n64⟩, -, X64, ⟨Lc64, hQ64, l64, y64, z64⟩, st64⟩ := X63.virtualBack hx (y := (⟨"java/lang/String", "charAt", "(I)C"⟩ : MethodName)) (z := (⟨"java/lang/String", "charAt", "(I)C"⟩ : MethodName)) hown (mvT hZ (hw _ (List.mem_of_getElem? (i := 12) rfl))) (mvT hZ (hw _ (List.mem_of_getElem? (i := 13) rfl))) (notFace_of_selects (args := #[]) (mvT hZ (hw _ (List.mem_of_getElem? (i := 15) rfl)))) (mvT hZ (hw _ (List.mem_of_getElem? (i := 15) rfl))) (mvT hZ (hw _ (List.mem_of_getElem? (i := 14) rfl))) (by decide) (backOf (W := 0) (rmCA l Z a0 hw [] b63 bb63 kb63 (2 : Int32) (121 : Int32) iC [(.int (121 : Int32)), (.int (102 : Int32))] vG h63 n0 (Nat.le_trans Z0 E63.1) f65 hC f66 hvG Ex63 Fc63 Fv63 Av63 (by decide) rfl) hZ (hw _ (List.mem_of_getElem? (i := 16) rfl)) (hw _ (List.mem_of_getElem? (i := 5) rfl)) (by decide) (by decide)) q64a q64c (g := (mkF m 114 #[.val (.int p0), .val (.int p1), .val (.int i), .val (.ref uYF), .val (.ref b63), .unset] [(.int (0 : Int32)), (.ref b63)])) rfl (by rw [hml]; rfl) (Steps.refl _) (argsL := [(.int (0 : Int32))]) (rest := []) (lenOf pd_4 rfl) rfl (by show 2 * 0 + _ ≤ _; exact Nat.le_of_eq rfl) (hb hby at_114) (fun _ _ => ⟨rfl, e63, (by decide : 2 + 0 ≤ _), (by decide : 16 + 0 ≤ _)⟩)
              dsimp only [Pt.U, Pt.locs, Pt.cells, Pt.slots] at X64 l64 y64 z64 st64 hQ64
              subst l64 y64 z64
              obtain ⟨rfl, N64q, e64⟩ := hQ64
              have N64 := Fr.app N0 N64q
              have f68 := (SYFX.ext E63)
              have f69 := (SYF.ext E63)
              have f70 := (EYF.ext E63)
              obtain ⟨cq67, kq67, q67a, q67b, q67c⟩ := isOf hZ e64 f70
              obtain ⟨_, _, ⟨T67, L67, k67, n67⟩, -, X67, ⟨Lc67, hQ67, l67, y67, z67⟩, st67⟩ := X64.virtualBack hx (y := (⟨site_133.cls, "leftMax", "(I)I"⟩ : MethodName)) (z := (⟨site_133.cls, "leftMax", "(I)I"⟩ : MethodName)) hown (mvT hZ (hw _ (List.mem_of_getElem? (i := 37) rfl))) (mvT hZ (hw _ (List.mem_of_getElem? (i := 38) rfl))) (notFace_of_selects (args := #[]) (mvT hZ (hw _ (List.mem_of_getElem? (i := 40) rfl)))) (mvT hZ (hw _ (List.mem_of_getElem? (i := 40) rfl))) (mvT hZ (hw _ (List.mem_of_getElem? (i := 39) rfl))) (by decide) (backOf (W := 0) (rmLM l Z a0 hw [] uYF p1 uYFX uYF h63 n0 (Nat.le_trans Z0 E63.1) f68 f69) hZ (hw _ (List.mem_of_getElem? (i := 41) rfl)) (hw _ (List.mem_of_getElem? (i := 2) rfl)) (by decide) (by decide)) q67a q67c (g := (mkF m 133 #[.val (.int p0), .val (.int p1), .val (.int i), .val (.ref uYF), .val (.ref b63), .val (.int p1)] [(.int p1), (.ref uYF)])) rfl (by rw [hml]; rfl) (Steps.refl _) (argsL := [(.int p1)]) (rest := []) (lenOf pd_5 rfl) rfl (by show 2 * 0 + _ ≤ _; exact Nat.le_of_eq rfl) (hb hby at_133) (fun _ _ => ⟨rfl, e64, (by decide : 2 + 0 ≤ _), (by decide : 16 + 0 ≤ _)⟩)
              dsimp only [Pt.U, Pt.locs, Pt.cells, Pt.slots] at X67 l67 y67 z67 st67 hQ67
              subst l67 y67 z67
              obtain ⟨rfl, N67q, e67⟩ := hQ67
              have N67 := Fr.app N64 N67q
              obtain ⟨fs, hr, hrun, hended, hRW⟩ := X67.leaveW hS63 (by rw [e67]; exact hk63) (v := some (.int (1 : Int32))) (fun h => by rw [Bd.returns] at h; cases h)
              refine ⟨_, _, pre52 _ ?_, hrun, hended, _, _, rfl, ?_, hRW⟩
              · show Steps p.tables e below (s₁.setTop (mkF m 89 #[.val (.int p0), .val (.int p1), .val (.int i), .unset, .unset, .unset] [(.int (5 : Int32)), (.int i)])) _
                refine XS.icmpYes X0.here hx rfl (pc0 := 89) (pc' := 103) rfl (hb hby at_89) rfl (feq (show ¬ (i = (5 : Int32)) from hc89)).2 (by decide) (by decide) ?_
                show Steps p.tables e below (s₁.setTop (mkF m 103 #[.val (.int p0), .val (.int p1), .val (.int i), .unset, .unset, .unset] [])) _
                refine st62 _ ?_
                show Steps p.tables e below (T62.setTop (mkF m 106 #[.val (.int p0), .val (.int p1), .val (.int i), .unset, .unset, .unset] [(.ref uYF)])) _
                refine XS.astoreN X62.here hx rfl (hb hby at_106) rfl rfl (l' := #[.val (.int p0), .val (.int p1), .val (.int i), .val (.ref uYF), .unset, .unset]) rfl ?_
                show Steps p.tables e below (T62.setTop (mkF m 107 #[.val (.int p0), .val (.int p1), .val (.int i), .val (.ref uYF), .unset, .unset] [])) _
                refine st63 _ ?_
                show Steps p.tables e below (T63.setTop (mkF m 109 #[.val (.int p0), .val (.int p1), .val (.int i), .val (.ref uYF), .unset, .unset] [(.ref b63)])) _
                refine XS.astore X63.here hx rfl (hb hby at_109) rfl rfl (l' := #[.val (.int p0), .val (.int p1), .val (.int i), .val (.ref uYF), .val (.ref b63), .unset]) rfl ?_
                show Steps p.tables e below (T63.setTop (mkF m 111 #[.val (.int p0), .val (.int p1), .val (.int i), .val (.ref uYF), .val (.ref b63), .unset] [])) _
                refine XS.aload X63.here hx rfl (hb hby at_111) rfl rfl ?_
                show Steps p.tables e below (T63.setTop (mkF m 113 #[.val (.int p0), .val (.int p1), .val (.int i), .val (.ref uYF), .val (.ref b63), .unset] [(.ref b63)])) _
                refine XS.iconst X63.here hx rfl (hb hby at_113) ?_
                show Steps p.tables e below (T63.setTop (mkF m 114 #[.val (.int p0), .val (.int p1), .val (.int i), .val (.ref uYF), .val (.ref b63), .unset] [(.int (0 : Int32)), (.ref b63)])) _
                refine st64.trans ?_
                show Steps p.tables e below (T64.setTop (mkF m 117 #[.val (.int p0), .val (.int p1), .val (.int i), .val (.ref uYF), .val (.ref b63), .unset] [(.int (ch2 (121 : Int32)))])) _
                refine XS.bipush X64.here hx rfl (hb hby at_117) ?_
                show Steps p.tables e below (T64.setTop (mkF m 119 #[.val (.int p0), .val (.int p1), .val (.int i), .val (.ref uYF), .val (.ref b63), .unset] [(.int (121 : Int32)), (.int (ch2 (121 : Int32)))])) _
                refine XS.icmpNo X64.here hx rfl (hb hby at_119) rfl (teq (show (ch2 (121 : Int32)) = (121 : Int32) from (by decide))).2 ?_
                show Steps p.tables e below (T64.setTop (mkF m 122 #[.val (.int p0), .val (.int p1), .val (.int i), .val (.ref uYF), .val (.ref b63), .unset] [])) _
                refine XS.iloadN X64.here hx rfl (hb hby at_122) rfl ?_
                show Steps p.tables e below (T64.setTop (mkF m 123 #[.val (.int p0), .val (.int p1), .val (.int i), .val (.ref uYF), .val (.ref b63), .unset] [(.int p1)])) _
                refine XS.goto X64.here hx rfl (pc0 := 123) (pc' := 129) rfl (hb hby at_123) (by decide) (by decide) ?_
                show Steps p.tables e below (T64.setTop (mkF m 129 #[.val (.int p0), .val (.int p1), .val (.int i), .val (.ref uYF), .val (.ref b63), .unset] [(.int p1)])) _
                refine XS.istore X64.here hx rfl (hb hby at_129) rfl (l' := #[.val (.int p0), .val (.int p1), .val (.int i), .val (.ref uYF), .val (.ref b63), .val (.int p1)]) rfl ?_
                show Steps p.tables e below (T64.setTop (mkF m 131 #[.val (.int p0), .val (.int p1), .val (.int i), .val (.ref uYF), .val (.ref b63), .val (.int p1)] [])) _
                refine XS.aloadN X64.here hx rfl (hb hby at_131) rfl rfl ?_
                show Steps p.tables e below (T64.setTop (mkF m 132 #[.val (.int p0), .val (.int p1), .val (.int i), .val (.ref uYF), .val (.ref b63), .val (.int p1)] [(.ref uYF)])) _
                refine XS.iloadN X64.here hx rfl (hb hby at_132) rfl ?_
                show Steps p.tables e below (T64.setTop (mkF m 133 #[.val (.int p0), .val (.int p1), .val (.int i), .val (.ref uYF), .val (.ref b63), .val (.int p1)] [(.int p1), (.ref uYF)])) _
                refine st67.trans ?_
                show Steps p.tables e below (T67.setTop (mkF m 136 #[.val (.int p0), .val (.int p1), .val (.int i), .val (.ref uYF), .val (.ref b63), .val (.int p1)] [(.int (leftV uYF uYFX uYF p1))])) _
                refine XS.iload X67.here hx rfl (hb hby at_136) rfl ?_
                show Steps p.tables e below (T67.setTop (mkF m 138 #[.val (.int p0), .val (.int p1), .val (.int i), .val (.ref uYF), .val (.ref b63), .val (.int p1)] [(.int p1), (.int (leftV uYF uYFX uYF p1))])) _
                refine XS.icmpNo X67.here hx rfl (hb hby at_138) rfl (teq (show (leftV uYF uYFX uYF p1) = p1 from (by rw [leftV, if_neg (Fld.ne OYF OYFX (by decide)), if_pos rfl]))).2 ?_
                show Steps p.tables e below (T67.setTop (mkF m 141 #[.val (.int p0), .val (.int p1), .val (.int i), .val (.ref uYF), .val (.ref b63), .val (.int p1)] [])) _
                refine XS.iconst X67.here hx rfl (hb hby at_141) ?_
                show Steps p.tables e below (T67.setTop (mkF m 142 #[.val (.int p0), .val (.int p1), .val (.int i), .val (.ref uYF), .val (.ref b63), .val (.int p1)] [(.int (1 : Int32))])) _
                refine XS.goto X67.here hx rfl (pc0 := 142) (pc' := 146) rfl (hb hby at_142) (by decide) (by decide) ?_
                show Steps p.tables e below (T67.setTop (mkF m 146 #[.val (.int p0), .val (.int p1), .val (.int i), .val (.ref uYF), .val (.ref b63), .val (.int p1)] [(.int (1 : Int32))])) _
                exact retN X67 hx (t := .boolean) Bd.returns (by simp) (hb hby at_146) hr
              · show Q0 h0 n0 _ T67.heap _
                rw [e67]
                exact ⟨rfl, N67⟩
set_option maxRecDepth 65536 in
set_option maxHeartbeats 40000000 in
theorem comes_1 {Post : Tables → Env → Array Value → State → Outcome → State → Prop} (hpost : ∀ tb e args s v u, (limb_1_1.after args s (.returned v) u = true ∧ limb_1_2.after args s (.returned v) u = true ∧ True) → FramedW s (.returned v) u (Jvm.fieldLocs frame_1_writes args s ++ Jvm.arrayLocs frame_1_arrays args s ++ Jvm.staticLocs frame_1_statics s) 16 7232 → Post tb e args s (.returned v) u) :
    ArmFor flags0 classFile x code maxLocals ret World_1 tables_1 room_1 Calls_1 rest_1 Pre_1 Post := by
  intro l hfl _ _ p e ha hc hk s m args below hf hA hF happ hP
  obtain ⟨hcalls, hrest, hpre⟩ := hP
  obtain ⟨-, -, -, hnamed, -, -, -, hat⟩ := (Spec.applies_iff hf).mp happ
  obtain ⟨hg, hn⟩ := and_e (Cond.before_iff.mp (show (Jvm.Cond.and given_1 narrow_1).before args s = true from hpre))
  obtain ⟨hcnt, hg1⟩ := and_e hg
  obtain ⟨ha0, hg2⟩ := and_e hg1
  have ha1 := hg2
  obtain ⟨w0, w1, rfl⟩ : ∃ w0 w1 : Value, args = #[w0, w1] := by
    have hs : args.size = 2 := by simpa [Cond.value, given_1] using hcnt
    obtain ⟨L⟩ := args
    match L, hs with
    | [w0, w1], _ => exact ⟨w0, w1, rfl⟩
  have hw := fun d (hd : d ∈ tables_1) => atoms_spec (ws := Jvm.Cond.code x code maxLocals ret :: tables_1) hat d (List.mem_cons_of_mem _ hd)
  have hfit : Fit s := fun {y c} hc i hi => by
    obtain ⟨ha, rfl⟩ := Array.getElem?_eq_some_iff.mp hc
    have q := List.all_eq_true.mp ((Array.all_eq_true_iff_forall_mem.mp hF) _ (Array.getElem_mem ha)) i (List.mem_range.mpr hi)
    simpa [Array.getElem?_eq_getElem hi] using q
  obtain ⟨hsets, hown0⟩ := atoms_of _ (rest_1_c_eq ▸ (show rest_1_c.before _ s = true from hrest))
  have hr0 := Cond.before_iff.mp hown0
  obtain ⟨i0, ei0⟩ := is_v ha0
  obtain rfl : w0 = (.int i0) := Option.some.inj ei0
  obtain ⟨i1, ei1⟩ := is_v ha1
  obtain rfl : w1 = (.int i1) := Option.some.inj ei1
  obtain ⟨hn0, hm0⟩ := and_e hn
  obtain ⟨hn1, hm1⟩ := and_e hm0
  obtain ⟨hn2, hm2⟩ := and_e hm1
  obtain ⟨hn3, hm3⟩ := and_e hm2
  obtain ⟨hn4, hm4⟩ := and_e hm3
  obtain ⟨hn5, hm5⟩ := and_e hm4
  obtain ⟨hn6, hm6⟩ := and_e hm5
  obtain ⟨hn7, hm7⟩ := and_e hm6
  obtain ⟨hn8, hm8⟩ := and_e hm7
  obtain ⟨hn9, hm9⟩ := and_e hm8
  obtain ⟨hn10, hm10⟩ := and_e hm9
  obtain ⟨hn11, hm11⟩ := and_e hm10
  obtain ⟨hn12, hn13⟩ := and_e hm11
  obtain ⟨uXFX, SXFX, EXFX, OXFX⟩ := own_enum hn0 hn2 (hw _ (List.mem_of_getElem? (i := 2) rfl)) (hw _ (List.mem_of_getElem? (i := 3) rfl))
  obtain ⟨uXFY, SXFY, EXFY, OXFY⟩ := own_enum hn8 hn9 (hw _ (List.mem_of_getElem? (i := 2) rfl)) (hw _ (List.mem_of_getElem? (i := 50) rfl))
  obtain ⟨uYFX, SYFX, EYFX, OYFX⟩ := own_enum hn1 hn3 (hw _ (List.mem_of_getElem? (i := 2) rfl)) (hw _ (List.mem_of_getElem? (i := 43) rfl))
  obtain ⟨uFX, SFX, EFX, OFX⟩ := own_enum hn6 hn7 (hw _ (List.mem_of_getElem? (i := 2) rfl)) (hw _ (List.mem_of_getElem? (i := 47) rfl))
  obtain ⟨uFY, SFY, EFY, OFY⟩ := own_enum hn10 hn11 (hw _ (List.mem_of_getElem? (i := 2) rfl)) (hw _ (List.mem_of_getElem? (i := 53) rfl))
  obtain ⟨uXF, SXF, EXF, OXF⟩ := own_enum hn12 hn13 (hw _ (List.mem_of_getElem? (i := 2) rfl)) (hw _ (List.mem_of_getElem? (i := 58) rfl))
  obtain ⟨uYF, SYF, EYF, OYF⟩ := own_enum hn4 hn5 (hw _ (List.mem_of_getElem? (i := 2) rfl)) (hw _ (List.mem_of_getElem? (i := 45) rfl))
  obtain ⟨iC, eC⟩ := is_v (Cond.before_iff.mp (hsets _ (List.mem_of_getElem? (i := 1) rfl)))
  have SC := Sta.start eC (Or.inl (hsets _ (List.mem_of_getElem? (i := 0) rfl)))
  have hC : ¬ iC = (0 : Int32) := fun q => by
    have h := not_v (Cond.before_iff.mp (hsets _ (List.mem_of_getElem? (i := 2) rfl)))
    rw [q] at eC
    have h2 := eq_i eC (Term.int_eval (0 : Int32)) rfl
    rw [h2] at h
    cases h
  obtain ⟨vG, eG, hvG⟩ := isR_v (Cond.before_iff.mp (hsets _ (List.mem_of_getElem? (i := 8) rfl)))
  have SG := Sta.start eG (Or.inl (hsets _ (List.mem_of_getElem? (i := 7) rfl)))
  have wS : ∀ a ∈ Bundle.stringAtoms, a.before #[.int i0, .int i1] s = true := fun d hd => by
    simp only [Bundle.stringAtoms, List.mem_cons, List.not_mem_nil, or_false] at hd
    rcases hd with rfl | rfl | rfl | rfl | rfl | rfl | rfl
    · exact (hw _ (List.mem_of_getElem? (i := 5) rfl))
    · exact (hw _ (List.mem_of_getElem? (i := 6) rfl))
    · exact (hw _ (List.mem_of_getElem? (i := 7) rfl))
    · exact (hw _ (List.mem_of_getElem? (i := 8) rfl))
    · exact (hw _ (List.mem_of_getElem? (i := 9) rfl))
    · exact (hw _ (List.mem_of_getElem? (i := 10) rfl))
    · exact (hw _ (List.mem_of_getElem? (i := 11) rfl))
  have hheld : ∀ i ∈ [14, 19, 24, 29, 34, 39, 44], Jvm.Lit.constHeld s x.cls i := fun i hi => by
    have q : (x.cls, i) ∈ consts_1 := by
      simp only [List.mem_cons, List.not_mem_nil, or_false] at hi
      rcases hi with rfl | rfl | rfl | rfl | rfl | rfl | rfl <;> exact (by decide)
    exact hcalls.1 (x.cls, i) q
  obtain ⟨n, o, h1, h2, h3, _, L, rfl, ⟨rfl, N⟩, hq⟩ := rm0 l s _ hw tables_1 i0 i1 iC vG uXFX uXFY uYFX uFX uFY uXF uYF s.heap s.heap.size (Nat.le_refl _) rfl wS (hsets _ (List.mem_of_getElem? (i := 2) rfl)) hheld SC hC SG hvG SXFX EXFX OXFX SXFY EXFY OXFY SYFX EYFX OYFX SFX EFX OFX SFY EFY OFY SXF EXF OXF SYF EYF OYF p e ha hc hk s m _ below hf ((Spec.applies_iff_loose hf).mp happ).1 ⟨rfl, rfl⟩ trivial
  refine ⟨n, _, h1, h2, h3, hpost _ _ _ _ _ _ ⟨Cond.after_iff.mpr rfl, Cond.after_iff.mpr (eq_i res_at (Term.int_eval (1)) rfl), trivial⟩ ⟨hq.1, hq.2.1, hq.2.2.1, (hq.2.2.2.sift fun y hy => Or.inr (N y hy)).mono (by decide) (by decide)⟩⟩
theorem main_1_1 : Claimed_1_1 := comes_1 fun _ _ _ _ _ _ h hF => ⟨h.1, hF⟩
theorem main_1_2 : Claimed_1_2 := comes_1 fun _ _ _ _ _ _ h hF => ⟨h.2.1, hF⟩
end Jvm.Pilot.@@N@@
namespace Jvm.Pilot.@@N@@
open Jvm Jvm.ClassFile Sem Op Lib Jvm.Free Jvm.Stand Jvm.Pilot.@@N@@.Jvm.D
/-! MADE BY PROGRAM (witnessworld.py) out of the Statement's table words and the real class files: 18 classes; the members and pool entries that the words name. The judged class is class 1, her method 1. -/
namespace start1
open Jvm.ClassFile
def u (s : String) : CpInfo := .utf8 (stringToUtf16 s)
/-- a pool by its gaps: so many unusable entries, then the entry; so many at the end -/
def gap : Nat → List CpInfo → List CpInfo
  | 0, r => r
  | n + 1, r => .unusable :: gap n r
def poolList (es : List (Nat × CpInfo)) (last : Nat) : List CpInfo := es.foldr (fun e r => gap e.1 (e.2 :: r)) (gap last [])
def pool (es : List (Nat × CpInfo)) (last : Nat) : Array CpInfo := ⟨poolList es last⟩
def fileOf (pool : Array CpInfo) (this : Nat) (attrs : Array Attribute := #[]) (ms : Array MethodInfo := #[]) (fl : Nat := 33) (sup : Nat := 0) (ifs : Array Nat := #[]) (fds : Array FieldInfo := #[]) : ClassFile where
  minorVersion := 0
  majorVersion := 65
  constantPool := pool
  accessFlags := fl
  thisClass := this
  superClass := sup
  interfaces := ifs
  fields := fds
  methods := ms
  attributes := attrs
def plain (name : String) (sup : Option ClassId) : Class where
  name := name
  kind := .ordinary
  loader := none
  accessFlags := 33
  super := sup
  interfaces := #[]
  cf := none
  fields := #[]
  methods := #[]
  instanceTypes := #[]
  staticTypes := #[]
  resolved := #[]
  callSites := []
  init := .initialized
  statics := none
  mirror := none

def pool0 : Array CpInfo := pool [(5, u "<init>"), (0, u "()V"), (1, .class_ 10), (1, u "java/lang/Object")] 113

def k0m0 : Method := { name := "<init>", desc := "()V", sig := { parameters := [], returnType := none }, accessFlags := 1, code := none }
/-- java/lang/Object -/
def k0 : Class := { plain "java/lang/Object" none with
  accessFlags := 33
  interfaces := #[]
  cf := some (fileOf pool0 8 #[] #[{ accessFlags := 1, nameIndex := 5, descriptorIndex := 6, attributes := #[] }] 33 0 #[] #[])
  fields := #[]
  methods := #[k0m0]
  instanceTypes := #[]
  staticTypes := #[]
  resolved := Array.replicate 124 none
  statics := none }

def pool1 : Array CpInfo := pool [(2, .class_ 4), (1, u "java/lang/Object"), (0, u "<init>"), (0, u "()V"), (0, .integer 2147483647), (0, .fieldref 9 10), (0, .class_ 11), (0, .nameAndType 12 13), (0, u site_133.cls), (0, u "XFX"), (0, u DD), (0, .string 15), (0, u "xfx"), (0, .fieldref 9 17), (0, .nameAndType 18 13), (0, u "XFY"), (0, .string 20), (0, u "xfy"), (0, .fieldref 9 22), (0, .nameAndType 23 13), (0, u "YFX"), (0, .string 25), (0, u "yfx"), (0, .fieldref 9 27), (0, .nameAndType 28 13), (0, u "FX"), (0, .string 30), (0, u "fx"), (0, .fieldref 9 32), (0, .nameAndType 33 13), (0, u "FY"), (0, .string 35), (0, u "fy"), (0, .fieldref 9 37), (0, .nameAndType 38 13), (0, u "XF"), (0, .string 40), (0, u "xf"), (0, .fieldref 9 42), (0, .nameAndType 43 13), (0, u "YF"), (0, .string 45), (0, u "yf"), (0, .methodref 47 48), (0, .class_ 49), (0, .nameAndType 50 51), (0, u "java/lang/String"), (0, u "charAt"), (0, u "(I)C"), (0, .methodref 9 53), (0, .nameAndType 54 55), (0, u "leftMax"), (0, u "(I)I"), (0, .class_ 57), (0, u x.cls), (2, u "law"), (0, u "(II)Z")] 3

def k1m0 : Method := { name := "<init>", desc := "()V", sig := { parameters := [], returnType := none }, accessFlags := 1, code := none }
def k1c1 : Code := { maxStack := 2, maxLocals := 6, code := code, exceptionTable := #[], attributes := #[] }
def k1m1 : Method := { name := "law", desc := "(II)Z", sig := { parameters := [.int, .int], returnType := some .boolean }, accessFlags := 9, code := some k1c1 }
def k1 : Class := { plain x.cls (some 0) with
  accessFlags := 49
  interfaces := #[]
  cf := some (fileOf pool1 56 #[] #[{ accessFlags := 1, nameIndex := 5, descriptorIndex := 6, attributes := #[] }, { accessFlags := 9, nameIndex := 60, descriptorIndex := 61, attributes := #[] }] 49 2 #[] #[])
  fields := #[]
  methods := #[k1m0, k1m1]
  instanceTypes := #[]
  staticTypes := #[]
  resolved := Array.replicate 65 none
  statics := none }

def pool2 : Array CpInfo := pool [(1, .class_ 2), (0, u "java/lang/constant/Constable"), (0, .class_ 4), (0, u "java/lang/Object")] 6

/-- java/lang/constant/Constable -/
def k2 : Class := { plain "java/lang/constant/Constable" (some 0) with
  accessFlags := 1537
  interfaces := #[]
  cf := some (fileOf pool2 1 #[] #[] 1537 3 #[] #[])
  fields := #[]
  methods := #[]
  instanceTypes := #[]
  staticTypes := #[]
  resolved := Array.replicate 11 none
  statics := none }

def pool3 : Array CpInfo := pool [(1, .class_ 2), (0, u "java/lang/Comparable"), (0, .class_ 4), (0, u "java/lang/Object")] 7

/-- java/lang/Comparable -/
def k3 : Class := { plain "java/lang/Comparable" (some 0) with
  accessFlags := 1537
  interfaces := #[]
  cf := some (fileOf pool3 1 #[] #[] 1537 3 #[] #[])
  fields := #[]
  methods := #[]
  instanceTypes := #[]
  staticTypes := #[]
  resolved := Array.replicate 12 none
  statics := none }

def pool4 : Array CpInfo := pool [(1, .class_ 2), (0, u "java/io/Serializable"), (0, .class_ 4), (0, u "java/lang/Object")] 2

/-- java/io/Serializable -/
def k4 : Class := { plain "java/io/Serializable" (some 0) with
  accessFlags := 1537
  interfaces := #[]
  cf := some (fileOf pool4 1 #[] #[] 1537 3 #[] #[])
  fields := #[]
  methods := #[]
  instanceTypes := #[]
  staticTypes := #[]
  resolved := Array.replicate 7 none
  statics := none }

def pool5 : Array CpInfo := pool [(2, .class_ 4), (1, u "java/lang/Enum"), (0, u "name"), (0, u "Ljava/lang/String;"), (2, u "ordinal"), (0, u "I"), (1, .class_ 14), (1, u "java/lang/Object"), (4, u "hash"), (86, .class_ 108), (1, u "java/lang/Enum$EnumDesc"), (2, .class_ 112), (0, u "java/lang/constant/Constable"), (0, .class_ 114), (0, u "java/lang/Comparable"), (0, .class_ 116), (0, u "java/io/Serializable")] 87

/-- java/lang/Enum -/
def k5 : Class := { plain "java/lang/Enum" (some 0) with
  accessFlags := 1057
  interfaces := #[2, 3, 4]
  cf := some (fileOf pool5 2 #[.nestMembers #[106]] #[] 1057 12 #[111, 113, 115] #[{ accessFlags := 18, nameIndex := 5, descriptorIndex := 6, attributes := #[] }, { accessFlags := 18, nameIndex := 9, descriptorIndex := 10, attributes := #[] }, { accessFlags := 2, nameIndex := 19, descriptorIndex := 10, attributes := #[] }])
  fields := #[{ name := "name", type := (.object "java/lang/String"), accessFlags := 18, slot := 0, constantValue := 0 }, { name := "ordinal", type := .int, accessFlags := 18, slot := 1, constantValue := 0 }, { name := "hash", type := .int, accessFlags := 2, slot := 2, constantValue := 0 }]
  methods := #[]
  instanceTypes := #[(.object "java/lang/String"), .int, .int]
  staticTypes := #[]
  resolved := Array.replicate 204 none
  statics := none }

def pool6 : Array CpInfo := pool [(1, .class_ 2), (0, u site_133.cls), (2, u "XFX"), (0, u DD), (2, u "XFY"), (0, .fieldref 1 11), (0, .nameAndType 12 6), (0, u "YFX"), (2, u "FX"), (2, u "FY"), (2, u "XF"), (0, .fieldref 1 23), (0, .nameAndType 24 6), (0, u "YF"), (2, u "$VALUES"), (0, u ("[" ++ DD)), (6, .class_ 37), (1, u "java/lang/Enum"), (52, u "leftMax"), (0, u "(I)I")] 5

def k6c0 : Code := { maxStack := 2, maxLocals := 2, code := prog_101_method_7_code, exceptionTable := #[], attributes := #[] }
def k6m0 : Method := { name := "leftMax", desc := "(I)I", sig := { parameters := [.int], returnType := some .int }, accessFlags := 1, code := some k6c0 }
def k6 : Class := { plain site_133.cls (some 5) with
  accessFlags := 16433
  interfaces := #[]
  cf := some (fileOf pool6 1 #[] #[{ accessFlags := 1, nameIndex := 90, descriptorIndex := 91, attributes := #[] }] 16433 35 #[] #[{ accessFlags := 16409, nameIndex := 5, descriptorIndex := 6, attributes := #[] }, { accessFlags := 16409, nameIndex := 9, descriptorIndex := 6, attributes := #[] }, { accessFlags := 16409, nameIndex := 12, descriptorIndex := 6, attributes := #[] }, { accessFlags := 16409, nameIndex := 15, descriptorIndex := 6, attributes := #[] }, { accessFlags := 16409, nameIndex := 18, descriptorIndex := 6, attributes := #[] }, { accessFlags := 16409, nameIndex := 21, descriptorIndex := 6, attributes := #[] }, { accessFlags := 16409, nameIndex := 24, descriptorIndex := 6, attributes := #[] }, { accessFlags := 4122, nameIndex := 27, descriptorIndex := 28, attributes := #[] }])
  fields := #[{ name := "XFX", type := (.object site_133.cls), accessFlags := 16409, slot := 0, constantValue := 0 }, { name := "XFY", type := (.object site_133.cls), accessFlags := 16409, slot := 1, constantValue := 0 }, { name := "YFX", type := (.object site_133.cls), accessFlags := 16409, slot := 2, constantValue := 0 }, { name := "FX", type := (.object site_133.cls), accessFlags := 16409, slot := 3, constantValue := 0 }, { name := "FY", type := (.object site_133.cls), accessFlags := 16409, slot := 4, constantValue := 0 }, { name := "XF", type := (.object site_133.cls), accessFlags := 16409, slot := 5, constantValue := 0 }, { name := "YF", type := (.object site_133.cls), accessFlags := 16409, slot := 6, constantValue := 0 }, { name := "$VALUES", type := (.array (.object site_133.cls)), accessFlags := 4122, slot := 7, constantValue := 0 }]
  methods := #[k6m0]
  instanceTypes := #[(.object "java/lang/String"), .int, .int]
  staticTypes := #[(.object site_133.cls), (.object site_133.cls), (.object site_133.cls), (.object site_133.cls), (.object site_133.cls), (.object site_133.cls), (.object site_133.cls), (.array (.object site_133.cls))]
  resolved := Array.replicate 97 none
  statics := some 0 }

def pool7 : Array CpInfo := pool [(2, .class_ 4), (1, u "java/lang/CharSequence"), (42, .class_ 48), (0, u "java/lang/CharSequence$1CodePointIterator"), (10, .class_ 60), (0, u "java/lang/CharSequence$1CharIterator"), (5, .class_ 67), (0, u "java/lang/Object")] 63

/-- java/lang/CharSequence -/
def k7 : Class := { plain "java/lang/CharSequence" (some 0) with
  accessFlags := 1537
  interfaces := #[]
  cf := some (fileOf pool7 2 #[.nestMembers #[47, 59]] #[] 1537 66 #[] #[])
  fields := #[]
  methods := #[]
  instanceTypes := #[]
  staticTypes := #[]
  resolved := Array.replicate 131 none
  statics := none }

def pool8 : Array CpInfo := pool [(1, .class_ 2), (0, u "java/lang/constant/ConstantDesc"), (0, .class_ 4), (0, u "java/lang/Object")] 32

/-- java/lang/constant/ConstantDesc -/
def k8 : Class := { plain "java/lang/constant/ConstantDesc" (some 0) with
  accessFlags := 1537
  interfaces := #[]
  cf := some (fileOf pool8 1 #[] #[] 1537 3 #[] #[])
  fields := #[]
  methods := #[]
  instanceTypes := #[]
  staticTypes := #[]
  resolved := Array.replicate 37 none
  statics := none }

def pool9 : Array CpInfo := pool [(2, .class_ 4), (1, u "java/lang/Object"), (0, u "<init>"), (0, u "()V"), (2, .fieldref 10 11), (0, .class_ 12), (0, .nameAndType 13 14), (0, u "java/lang/String"), (0, u "value"), (0, u "[B"), (0, .fieldref 10 16), (0, .nameAndType 17 18), (0, u "coder"), (0, u "B"), (2, u "hash"), (0, u "I"), (2, u "hashIsZero"), (0, u "Z"), (11, .fieldref 10 39), (0, .nameAndType 40 26), (0, u "COMPACT_STRINGS"), (66, .class_ 109), (1, u "java/lang/StringLatin1"), (32, u "()Z"), (220, u "([BI)C"), (27, u "(II)V"), (35, u "(I)C"), (64, .methodref 10 493), (0, .nameAndType 494 142), (0, u "isLatin1"), (0, .methodref 107 496), (0, .nameAndType 497 363), (0, u "charAt"), (3, u "checkIndex"), (73, .class_ 576), (0, u "java/lang/CharSequence"), (22, u "CASE_INSENSITIVE_ORDER"), (0, u "Ljava/util/Comparator;"), (452, .fieldref 1054 1055), (0, .class_ 1056), (0, .nameAndType 1057 1058), (0, u "jdk/internal/util/Preconditions"), (0, u "SIOOBE_FORMATTER"), (0, u "Ljava/util/function/BiFunction;"), (0, .methodref 1054 1060), (0, .nameAndType 501 1061), (0, u "(IILjava/util/function/BiFunction;)I"), (39, u "serialPersistentFields"), (0, u "[Ljava/io/ObjectStreamField;"), (0, .class_ 1104), (0, u "java/lang/String$CaseInsensitiveComparator"), (1, .class_ 1107), (0, u "java/io/Serializable"), (0, .class_ 1109), (0, u "java/lang/Comparable"), (0, .class_ 1111), (0, u "java/lang/constant/Constable"), (0, .class_ 1113), (0, u "java/lang/constant/ConstantDesc"), (2, u "serialVersionUID"), (0, u "J"), (3, u "REPL"), (0, u "C"), (2, u "LATIN1"), (1, u "UTF16")] 323

def k9m0 : Method := { name := "<init>", desc := "()V", sig := { parameters := [], returnType := none }, accessFlags := 1, code := none }
def k9c1 : Code := { maxStack := 2, maxLocals := 2, code := jdk_42_method_56_code, exceptionTable := #[], attributes := #[] }
def k9m1 : Method := { name := "charAt", desc := "(I)C", sig := { parameters := [.int], returnType := some .char }, accessFlags := 1, code := some k9c1 }
def k9c2 : Code := { maxStack := 1, maxLocals := 1, code := jdk_42_method_154_code, exceptionTable := #[], attributes := #[] }
def k9m2 : Method := { name := "isLatin1", desc := "()Z", sig := { parameters := [], returnType := some .boolean }, accessFlags := 0, code := some k9c2 }
def k9c3 : Code := { maxStack := 3, maxLocals := 2, code := jdk_42_method_155_code, exceptionTable := #[], attributes := #[] }
def k9m3 : Method := { name := "checkIndex", desc := "(II)V", sig := { parameters := [.int, .int], returnType := none }, accessFlags := 8, code := some k9c3 }
/-- java/lang/String -/
def k9 : Class := { plain "java/lang/String" (some 0) with
  accessFlags := 49
  interfaces := #[4, 3, 7, 2, 8]
  cf := some (fileOf pool9 10 #[.nestMembers #[1103]] #[{ accessFlags := 1, nameIndex := 5, descriptorIndex := 6, attributes := #[] }, { accessFlags := 1, nameIndex := 497, descriptorIndex := 427, attributes := #[] }, { accessFlags := 0, nameIndex := 494, descriptorIndex := 142, attributes := #[] }, { accessFlags := 8, nameIndex := 501, descriptorIndex := 391, attributes := #[] }] 49 2 #[1106, 1108, 575, 1110, 1112] #[{ accessFlags := 18, nameIndex := 13, descriptorIndex := 14, attributes := #[] }, { accessFlags := 18, nameIndex := 17, descriptorIndex := 18, attributes := #[] }, { accessFlags := 2, nameIndex := 21, descriptorIndex := 22, attributes := #[] }, { accessFlags := 2, nameIndex := 25, descriptorIndex := 26, attributes := #[] }, { accessFlags := 26, nameIndex := 1116, descriptorIndex := 1117, attributes := #[] }, { accessFlags := 24, nameIndex := 40, descriptorIndex := 26, attributes := #[] }, { accessFlags := 26, nameIndex := 1101, descriptorIndex := 1102, attributes := #[] }, { accessFlags := 26, nameIndex := 1121, descriptorIndex := 1122, attributes := #[] }, { accessFlags := 25, nameIndex := 599, descriptorIndex := 600, attributes := #[] }, { accessFlags := 24, nameIndex := 1125, descriptorIndex := 18, attributes := #[] }, { accessFlags := 24, nameIndex := 1127, descriptorIndex := 18, attributes := #[] }])
  fields := #[{ name := "value", type := (.array .byte), accessFlags := 18, slot := 0, constantValue := 0 }, { name := "coder", type := .byte, accessFlags := 18, slot := 1, constantValue := 0 }, { name := "hash", type := .int, accessFlags := 2, slot := 2, constantValue := 0 }, { name := "hashIsZero", type := .boolean, accessFlags := 2, slot := 3, constantValue := 0 }, { name := "serialVersionUID", type := .long, accessFlags := 26, slot := 0, constantValue := 0 }, { name := "COMPACT_STRINGS", type := .boolean, accessFlags := 24, slot := 1, constantValue := 0 }, { name := "serialPersistentFields", type := (.array (.object "java/io/ObjectStreamField")), accessFlags := 26, slot := 2, constantValue := 0 }, { name := "REPL", type := .char, accessFlags := 26, slot := 3, constantValue := 0 }, { name := "CASE_INSENSITIVE_ORDER", type := (.object "java/util/Comparator"), accessFlags := 25, slot := 4, constantValue := 0 }, { name := "LATIN1", type := .byte, accessFlags := 24, slot := 5, constantValue := 0 }, { name := "UTF16", type := .byte, accessFlags := 24, slot := 6, constantValue := 0 }]
  methods := #[k9m0, k9m1, k9m2, k9m3]
  instanceTypes := #[(.array .byte), .byte, .int, .boolean]
  staticTypes := #[.long, .boolean, (.array (.object "java/io/ObjectStreamField")), .char, (.object "java/util/Comparator"), .byte, .byte]
  resolved := Array.replicate 1451 none
  statics := some 1 }

def pool10 : Array CpInfo := pool [(1, .class_ 2), (0, u "java/lang/String"), (1, .class_ 6), (1, u "java/lang/Object"), (0, u "<init>"), (0, u "()V"), (0, .methodref 1 10), (0, .nameAndType 11 12), (0, u "checkIndex"), (0, u "(II)V"), (1, .class_ 16), (1, u "java/lang/StringLatin1"), (36, u "([BI)C"), (67, u "$assertionsDisabled"), (0, u "Z"), (98, .class_ 223), (1, u "java/lang/StringLatin1$LinesSpliterator"), (28, u "charAt"), (137, .class_ 391), (0, u "java/lang/StringLatin1$CharsSpliterator")] 3

def k10m0 : Method := { name := "<init>", desc := "()V", sig := { parameters := [], returnType := none }, accessFlags := 0, code := none }
def k10c1 : Code := { maxStack := 2, maxLocals := 2, code := jdk_43_method_2_code, exceptionTable := #[], attributes := #[] }
def k10m1 : Method := { name := "charAt", desc := "([BI)C", sig := { parameters := [(.array .byte), .int], returnType := some .char }, accessFlags := 9, code := some k10c1 }
/-- java/lang/StringLatin1 -/
def k10 : Class := { plain "java/lang/StringLatin1" (some 0) with
  accessFlags := 48
  interfaces := #[]
  cf := some (fileOf pool10 14 #[.nestMembers #[390, 221]] #[{ accessFlags := 0, nameIndex := 7, descriptorIndex := 8, attributes := #[] }, { accessFlags := 9, nameIndex := 252, descriptorIndex := 53, attributes := #[] }] 48 4 #[] #[{ accessFlags := 4120, nameIndex := 121, descriptorIndex := 122, attributes := #[] }])
  fields := #[{ name := "$assertionsDisabled", type := .boolean, accessFlags := 4120, slot := 0, constantValue := 0 }]
  methods := #[k10m0, k10m1]
  instanceTypes := #[]
  staticTypes := #[.boolean]
  resolved := Array.replicate 395 none
  statics := none }

def pool11 : Array CpInfo := pool [(2, .class_ 4), (1, u "java/lang/Object"), (0, u "<init>"), (0, u "()V"), (17, .class_ 26), (1, u "jdk/internal/util/Preconditions"), (6, u "checkIndex"), (21, .class_ 56), (0, u "jdk/internal/util/Preconditions$4"), (57, .class_ 115), (0, u "jdk/internal/util/Preconditions$1"), (7, u "SIOOBE_FORMATTER"), (0, u "Ljava/util/function/BiFunction;"), (0, .class_ 126), (0, u "jdk/internal/util/Preconditions$2"), (3, u "AIOOBE_FORMATTER"), (0, .class_ 132), (0, u "jdk/internal/util/Preconditions$3"), (3, u "IOOBE_FORMATTER"), (41, u "(IILjava/util/function/BiFunction;)I")] 15

def k11m0 : Method := { name := "<init>", desc := "()V", sig := { parameters := [], returnType := none }, accessFlags := 1, code := none }
def k11c1 : Code := { maxStack := 3, maxLocals := 3, code := jdk_41_method_11_code, exceptionTable := #[], attributes := #[] }
def k11m1 : Method := { name := "checkIndex", desc := "(IILjava/util/function/BiFunction;)I", sig := { parameters := [.int, .int, (.object "java/util/function/BiFunction")], returnType := some .int }, accessFlags := 9, code := some k11c1 }
/-- jdk/internal/util/Preconditions -/
def k11 : Class := { plain "jdk/internal/util/Preconditions" (some 0) with
  accessFlags := 33
  interfaces := #[]
  cf := some (fileOf pool11 24 #[.nestMembers #[55, 131, 125, 114]] #[{ accessFlags := 1, nameIndex := 5, descriptorIndex := 6, attributes := #[] }, { accessFlags := 9, nameIndex := 33, descriptorIndex := 178, attributes := #[] }] 33 2 #[] #[{ accessFlags := 25, nameIndex := 123, descriptorIndex := 124, attributes := #[] }, { accessFlags := 25, nameIndex := 130, descriptorIndex := 124, attributes := #[] }, { accessFlags := 25, nameIndex := 136, descriptorIndex := 124, attributes := #[] }])
  fields := #[{ name := "SIOOBE_FORMATTER", type := (.object "java/util/function/BiFunction"), accessFlags := 25, slot := 0, constantValue := 0 }, { name := "AIOOBE_FORMATTER", type := (.object "java/util/function/BiFunction"), accessFlags := 25, slot := 1, constantValue := 0 }, { name := "IOOBE_FORMATTER", type := (.object "java/util/function/BiFunction"), accessFlags := 25, slot := 2, constantValue := 0 }]
  methods := #[k11m0, k11m1]
  instanceTypes := #[]
  staticTypes := #[(.object "java/util/function/BiFunction"), (.object "java/util/function/BiFunction"), (.object "java/util/function/BiFunction")]
  resolved := Array.replicate 194 none
  statics := some 2 }

def pool12 : Array CpInfo := pool [(9, u "<init>"), (6, .class_ 18), (1, u "java/lang/Object"), (0, u "()V"), (1, .class_ 23), (1, u "jdk/internal/util/ArraysSupport"), (0, u "LOG2_ARRAY_LONG_INDEX_SCALE"), (0, u "I"), (2, u "U"), (0, u "Ljdk/internal/misc/Unsafe;"), (8, u "BIG_ENDIAN"), (0, u "Z"), (8, u "LOG2_BYTE_BIT_SIZE"), (4, u "LOG2_ARRAY_INT_INDEX_SCALE"), (54, u "JLA"), (0, u "Ljdk/internal/access/JavaLangAccess;"), (11, u "LOG2_ARRAY_BOOLEAN_INDEX_SCALE"), (9, u "LOG2_ARRAY_BYTE_INDEX_SCALE"), (5, u "LOG2_ARRAY_CHAR_INDEX_SCALE"), (5, u "LOG2_ARRAY_SHORT_INDEX_SCALE"), (18, u "LOG2_ARRAY_FLOAT_INDEX_SCALE"), (24, u "LOG2_ARRAY_DOUBLE_INDEX_SCALE"), (89, u "T_BOOLEAN"), (2, u "T_CHAR"), (1, u "T_FLOAT"), (1, u "T_DOUBLE"), (1, u "T_BYTE"), (1, u "T_SHORT"), (1, u "T_INT"), (1, u "T_LONG"), (1, u "SOFT_MAX_ARRAY_LENGTH")] 83

def k12m0 : Method := { name := "<init>", desc := "()V", sig := { parameters := [], returnType := none }, accessFlags := 2, code := none }
/-- jdk/internal/util/ArraysSupport -/
def k12 : Class := { plain "jdk/internal/util/ArraysSupport" (some 0) with
  accessFlags := 33
  interfaces := #[]
  cf := some (fileOf pool12 21 #[] #[{ accessFlags := 2, nameIndex := 9, descriptorIndex := 19, attributes := #[] }] 33 16 #[] #[{ accessFlags := 24, nameIndex := 28, descriptorIndex := 29, attributes := #[] }, { accessFlags := 26, nameIndex := 38, descriptorIndex := 39, attributes := #[] }, { accessFlags := 25, nameIndex := 121, descriptorIndex := 25, attributes := #[] }, { accessFlags := 25, nameIndex := 131, descriptorIndex := 25, attributes := #[] }, { accessFlags := 25, nameIndex := 137, descriptorIndex := 25, attributes := #[] }, { accessFlags := 25, nameIndex := 143, descriptorIndex := 25, attributes := #[] }, { accessFlags := 25, nameIndex := 53, descriptorIndex := 25, attributes := #[] }, { accessFlags := 25, nameIndex := 24, descriptorIndex := 25, attributes := #[] }, { accessFlags := 25, nameIndex := 162, descriptorIndex := 25, attributes := #[] }, { accessFlags := 25, nameIndex := 187, descriptorIndex := 25, attributes := #[] }, { accessFlags := 26, nameIndex := 48, descriptorIndex := 25, attributes := #[] }, { accessFlags := 25, nameIndex := 277, descriptorIndex := 25, attributes := #[] }, { accessFlags := 25, nameIndex := 280, descriptorIndex := 25, attributes := #[] }, { accessFlags := 25, nameIndex := 282, descriptorIndex := 25, attributes := #[] }, { accessFlags := 25, nameIndex := 284, descriptorIndex := 25, attributes := #[] }, { accessFlags := 25, nameIndex := 286, descriptorIndex := 25, attributes := #[] }, { accessFlags := 25, nameIndex := 288, descriptorIndex := 25, attributes := #[] }, { accessFlags := 25, nameIndex := 290, descriptorIndex := 25, attributes := #[] }, { accessFlags := 25, nameIndex := 292, descriptorIndex := 25, attributes := #[] }, { accessFlags := 26, nameIndex := 108, descriptorIndex := 109, attributes := #[] }, { accessFlags := 25, nameIndex := 294, descriptorIndex := 25, attributes := #[] }])
  fields := #[{ name := "U", type := (.object "jdk/internal/misc/Unsafe"), accessFlags := 24, slot := 0, constantValue := 0 }, { name := "BIG_ENDIAN", type := .boolean, accessFlags := 26, slot := 1, constantValue := 0 }, { name := "LOG2_ARRAY_BOOLEAN_INDEX_SCALE", type := .int, accessFlags := 25, slot := 2, constantValue := 0 }, { name := "LOG2_ARRAY_BYTE_INDEX_SCALE", type := .int, accessFlags := 25, slot := 3, constantValue := 0 }, { name := "LOG2_ARRAY_CHAR_INDEX_SCALE", type := .int, accessFlags := 25, slot := 4, constantValue := 0 }, { name := "LOG2_ARRAY_SHORT_INDEX_SCALE", type := .int, accessFlags := 25, slot := 5, constantValue := 0 }, { name := "LOG2_ARRAY_INT_INDEX_SCALE", type := .int, accessFlags := 25, slot := 6, constantValue := 0 }, { name := "LOG2_ARRAY_LONG_INDEX_SCALE", type := .int, accessFlags := 25, slot := 7, constantValue := 0 }, { name := "LOG2_ARRAY_FLOAT_INDEX_SCALE", type := .int, accessFlags := 25, slot := 8, constantValue := 0 }, { name := "LOG2_ARRAY_DOUBLE_INDEX_SCALE", type := .int, accessFlags := 25, slot := 9, constantValue := 0 }, { name := "LOG2_BYTE_BIT_SIZE", type := .int, accessFlags := 26, slot := 10, constantValue := 0 }, { name := "T_BOOLEAN", type := .int, accessFlags := 25, slot := 11, constantValue := 0 }, { name := "T_CHAR", type := .int, accessFlags := 25, slot := 12, constantValue := 0 }, { name := "T_FLOAT", type := .int, accessFlags := 25, slot := 13, constantValue := 0 }, { name := "T_DOUBLE", type := .int, accessFlags := 25, slot := 14, constantValue := 0 }, { name := "T_BYTE", type := .int, accessFlags := 25, slot := 15, constantValue := 0 }, { name := "T_SHORT", type := .int, accessFlags := 25, slot := 16, constantValue := 0 }, { name := "T_INT", type := .int, accessFlags := 25, slot := 17, constantValue := 0 }, { name := "T_LONG", type := .int, accessFlags := 25, slot := 18, constantValue := 0 }, { name := "JLA", type := (.object "jdk/internal/access/JavaLangAccess"), accessFlags := 26, slot := 19, constantValue := 0 }, { name := "SOFT_MAX_ARRAY_LENGTH", type := .int, accessFlags := 25, slot := 20, constantValue := 0 }]
  methods := #[k12m0]
  instanceTypes := #[]
  staticTypes := #[(.object "jdk/internal/misc/Unsafe"), .boolean, .int, .int, .int, .int, .int, .int, .int, .int, .int, .int, .int, .int, .int, .int, .int, .int, .int, (.object "jdk/internal/access/JavaLangAccess"), .int]
  resolved := Array.replicate 378 none
  statics := none }

def pool13 : Array CpInfo := pool [(1, u "java/lang/Cloneable"), (0, .class_ 1), (0, u "java/lang/Object"), (0, .class_ 3)] 3

/-- java/lang/Cloneable -/
def k13 : Class := { plain "java/lang/Cloneable" (some 0) with
  accessFlags := 1537
  interfaces := #[]
  cf := some (fileOf pool13 2 #[] #[] 1537 4 #[] #[])
  fields := #[]
  methods := #[]
  instanceTypes := #[]
  staticTypes := #[]
  resolved := Array.replicate 8 none
  statics := none }

/-- the primitive byte -/
def k14 : Class := { plain "byte" none with kind := .primitive 'B', accessFlags := 0x411 }
/-- [B -/
def k15 : Class := { plain "[B" (some 0) with kind := .array 14 .byte, interfaces := #[13, 4], accessFlags := 1041 }

/-- the primitive int -/
def k16 : Class := { plain "int" none with kind := .primitive 'I', accessFlags := 0x411 }
/-- [I -/
def k17 : Class := { plain "[I" (some 0) with kind := .array 16 .int, interfaces := #[13, 4], accessFlags := 1041 }

def heap : Heap := #[{ cls := 6, slots := #[.ref 3, .ref 4, .ref 5, .ref 6, .ref 7, .ref 8, .ref 9, .null], vm := .statics 6 },
  { cls := 9, slots := #[.long 0, .int 1, .null, .int 0, .null, .int 0, .int 0], vm := .statics 9 },
  { cls := 11, slots := #[.null, .null, .null], vm := .statics 11 },
  { cls := 6, slots := #[.null, .int 0, .int 0], vm := .none },
  { cls := 6, slots := #[.null, .int 1, .int 0], vm := .none },
  { cls := 6, slots := #[.null, .int 2, .int 0], vm := .none },
  { cls := 6, slots := #[.null, .int 3, .int 0], vm := .none },
  { cls := 6, slots := #[.null, .int 4, .int 0], vm := .none },
  { cls := 6, slots := #[.null, .int 5, .int 0], vm := .none },
  { cls := 6, slots := #[.null, .int 6, .int 0], vm := .none }]
def classes : Array Class := #[k0, k1, k2, k3, k4, k5, k6, k7, k8, k9, k10, k11, k12, k13, k14, k15, k16, k17]
def interned : List (Array UInt16 × Addr) := []
def slotsUsed : Nat := 39
def theMethod : MethodId := ⟨1, 1⟩
def args0 : Array Value := #[.int 5, .int 7]
def aboutOver (below : List Frame) : State where
  vm := { classes := classes, interned := interned.toArray }
  heap := heap
  slotsUsed := slotsUsed
  threads := #[{ frames := .invoking theMethod args0 :: below }]
def below0 : List Frame := [.native { method := ⟨0, 0⟩, args := #[] }]
def about1 : State := aboutOver below0
def p0 : Program := .bare "" "" ""
def e0 : Env := launch0.env 0 0 0
theorem w_frames : about1.frames = Frame.invoking theMethod args0 :: below0 := rfl
set_option maxRecDepth 65536 in
theorem w_args : argsFit about1.vm theMethod args0 = true := by decide +kernel
set_option maxRecDepth 65536 in
theorem w_heap : heapFits about1 = true := by decide +kernel
set_option maxRecDepth 65536 in
theorem w_runnable : about1.curStatus? = some .runnable := by decide +kernel
set_option maxRecDepth 65536 in
theorem w_alone : about1.alone = true := by decide +kernel
set_option maxRecDepth 65536 in
theorem w_named : about1.methodNamed? x = some theMethod := by decide +kernel
set_option maxRecDepth 65536 in
theorem w_hears : about1.hears theMethod below0 = true := by decide +kernel
set_option maxRecDepth 65536 in
theorem w_ripe : about1.ripe theMethod args0 below0 = true := by decide +kernel
theorem w_running : about1.status = .running := rfl
set_option maxRecDepth 65536 in
theorem w_room : about1.hasRoom e0.platform room_1 = true :=
  launch0.hasRoom_least _ room_1 (by decide +kernel) (by decide +kernel) (by decide +kernel) (by decide +kernel) (by decide +kernel) (by decide +kernel)
theorem allAtoms_all (ts : List Jvm.Cond) (a : Array Jvm.Value) (st : Jvm.State) : (allAtoms ts).before a st = ts.all (fun c => c.before a st) := by
  induction ts with
  | nil => rfl
  | cons c t ih =>
    show (Jvm.Cond.and c (allAtoms t)).before a st = _
    rw [Jvm.Cond.before_and, ih, List.all_cons]
def words1 : List Jvm.Cond := Jvm.Cond.code x code maxLocals ret :: tables_1
/-- a 'code' word, met by the world's own term for the bytes: nothing is compared byte by byte -/
theorem code_word {y : MethodName} {bytes : ByteArray} {mx : Nat} {rt : Option FieldType} {a : Array Value} {s : State} {m : MethodId} {meth : Method} {c : Code} (h1 : s.methodNamed? y = some m) (h2 : s.vm.method? m = some meth) (h3 : meth.code = some c) (h4 : c.code = bytes)
    (h5 : (c.maxLocals == mx && c.exceptionTable.isEmpty && decide (c.maxStack ≤ mostOperands) && decide (meth.sig.returnType = rt) && !meth.locks && decide (parseMethodDescriptor y.desc = some meth.sig)) = true) : (Jvm.Cond.code y bytes mx rt).before a s = true := by
  simp only [Bool.and_eq_true, beq_iff_eq, Bool.not_eq_true', decide_eq_true_eq] at h5
  obtain ⟨⟨⟨⟨⟨g1, g2⟩, g3⟩, g4⟩, g5⟩, g6⟩ := h5
  simp [Cond.before, Cond.holds, Cond.value, h1, h2, h3, h4, g1, g2, g3, g4, g5, g6]
def isCode : Jvm.Cond → Bool
  | .code _ _ _ _ => true
  | _ => false
theorem all_split {L : List Jvm.Cond} {P : Jvm.Cond → Bool} (h1 : L.all (fun c => isCode c || P c) = true) (h2 : ∀ c ∈ L.filter isCode, P c = true) : L.all P = true := by
  refine List.all_eq_true.mpr fun c hc => ?_
  have h := List.all_eq_true.mp h1 c hc
  rcases Bool.eq_false_or_eq_true (isCode c) with hi | hi
  · exact h2 c (List.mem_filter.mpr ⟨hc, hi⟩)
  · simpa [hi] using h
set_option maxRecDepth 65536 in
theorem w_c0 : (Jvm.Cond.code x code maxLocals ret).before args0 about1 = true := code_word (m := ⟨1, 1⟩) (meth := k1m1) (c := k1c1) (by decide +kernel) rfl rfl rfl (by decide +kernel)
set_option maxRecDepth 65536 in
theorem w_c1 : (Jvm.Cond.code ({ cls := "java/lang/String", name := "charAt", desc := "(I)C" } : Jvm.MethodName) jdk_42_method_56_code (2 : Nat) (Option.some Jvm.ClassFile.FieldType.char)).before args0 about1 = true := code_word (m := ⟨9, 1⟩) (meth := k9m1) (c := k9c1) (by decide +kernel) rfl rfl rfl (by decide +kernel)
set_option maxRecDepth 65536 in
theorem w_c2 : (Jvm.Cond.code ({ cls := "java/lang/String", name := "isLatin1", desc := "()Z" } : Jvm.MethodName) jdk_42_method_154_code (1 : Nat) (Option.some Jvm.ClassFile.FieldType.boolean)).before args0 about1 = true := code_word (m := ⟨9, 2⟩) (meth := k9m2) (c := k9c2) (by decide +kernel) rfl rfl rfl (by decide +kernel)
set_option maxRecDepth 65536 in
theorem w_c3 : (Jvm.Cond.code ({ cls := "java/lang/StringLatin1", name := "charAt", desc := "([BI)C" } : Jvm.MethodName) jdk_43_method_2_code (2 : Nat) (Option.some Jvm.ClassFile.FieldType.char)).before args0 about1 = true := code_word (m := ⟨10, 1⟩) (meth := k10m1) (c := k10c1) (by decide +kernel) rfl rfl rfl (by decide +kernel)
set_option maxRecDepth 65536 in
theorem w_c4 : (Jvm.Cond.code ({ cls := "java/lang/String", name := "checkIndex", desc := "(II)V" } : Jvm.MethodName) jdk_42_method_155_code (2 : Nat) (Option.none : Option Jvm.ClassFile.FieldType)).before args0 about1 = true := code_word (m := ⟨9, 3⟩) (meth := k9m3) (c := k9c3) (by decide +kernel) rfl rfl rfl (by decide +kernel)
set_option maxRecDepth 65536 in
theorem w_c5 : (Jvm.Cond.code ({ cls := "jdk/internal/util/Preconditions", name := "checkIndex", desc := "(IILjava/util/function/BiFunction;)I" } : Jvm.MethodName) jdk_41_method_11_code (3 : Nat) (Option.some Jvm.ClassFile.FieldType.int)).before args0 about1 = true := code_word (m := ⟨11, 1⟩) (meth := k11m1) (c := k11c1) (by decide +kernel) rfl rfl rfl (by decide +kernel)
set_option maxRecDepth 65536 in
theorem w_c6 : (Jvm.Cond.code ({ cls := site_133.cls, name := "leftMax", desc := "(I)I" } : Jvm.MethodName) prog_101_method_7_code (2 : Nat) (Option.some Jvm.ClassFile.FieldType.int)).before args0 about1 = true := code_word (m := ⟨6, 0⟩) (meth := k6m0) (c := k6c0) (by decide +kernel) rfl rfl rfl (by decide +kernel)
def codes1 : List Jvm.Cond := [Jvm.Cond.code x code maxLocals ret, Jvm.Cond.code ({ cls := "java/lang/String", name := "charAt", desc := "(I)C" } : Jvm.MethodName) jdk_42_method_56_code (2 : Nat) (Option.some Jvm.ClassFile.FieldType.char), Jvm.Cond.code ({ cls := "java/lang/String", name := "isLatin1", desc := "()Z" } : Jvm.MethodName) jdk_42_method_154_code (1 : Nat) (Option.some Jvm.ClassFile.FieldType.boolean), Jvm.Cond.code ({ cls := "java/lang/StringLatin1", name := "charAt", desc := "([BI)C" } : Jvm.MethodName) jdk_43_method_2_code (2 : Nat) (Option.some Jvm.ClassFile.FieldType.char), Jvm.Cond.code ({ cls := "java/lang/String", name := "checkIndex", desc := "(II)V" } : Jvm.MethodName) jdk_42_method_155_code (2 : Nat) (Option.none : Option Jvm.ClassFile.FieldType), Jvm.Cond.code ({ cls := "jdk/internal/util/Preconditions", name := "checkIndex", desc := "(IILjava/util/function/BiFunction;)I" } : Jvm.MethodName) jdk_41_method_11_code (3 : Nat) (Option.some Jvm.ClassFile.FieldType.int), Jvm.Cond.code ({ cls := site_133.cls, name := "leftMax", desc := "(I)I" } : Jvm.MethodName) prog_101_method_7_code (2 : Nat) (Option.some Jvm.ClassFile.FieldType.int)]
set_option maxRecDepth 65536 in
theorem codes_eq : words1.filter isCode = codes1 := rfl
theorem w_codes : ∀ c ∈ words1.filter isCode, c.before args0 about1 = true := by
  rw [codes_eq]
  intro c hc
  simp only [codes1, List.mem_cons, List.not_mem_nil, or_false] at hc
  rcases hc with rfl | rfl | rfl | rfl | rfl | rfl | rfl
  · exact w_c0
  · exact w_c1
  · exact w_c2
  · exact w_c3
  · exact w_c4
  · exact w_c5
  · exact w_c6
set_option maxRecDepth 65536 in
theorem w_t1 : (words1.take 24).all (fun c => isCode c || c.before args0 about1) = true := by decide +kernel
set_option maxRecDepth 65536 in
theorem w_t2 : ((words1.drop 24).take 24).all (fun c => isCode c || c.before args0 about1) = true := by decide +kernel
set_option maxRecDepth 65536 in
theorem w_t3 : ((words1.drop 24).drop 24).all (fun c => isCode c || c.before args0 about1) = true := by decide +kernel
theorem w_tables : (allAtoms (Jvm.Cond.code x code maxLocals ret :: tables_1)).before args0 about1 = true := by
  rw [allAtoms_all]
  show words1.all (fun c => c.before args0 about1) = true
  refine all_split ?_ w_codes
  rw [← List.take_append_drop 24 words1, List.all_append, w_t1, ← List.take_append_drop 24 (words1.drop 24), List.all_append, w_t2, w_t3]
  rfl
set_option maxRecDepth 65536 in
theorem w_rest : rest_1_c.before args0 about1 = true := by decide +kernel
set_option maxRecDepth 65536 in
theorem w_case : (Jvm.Cond.and given_1 narrow_1).before args0 about1 = true := by decide +kernel
set_option maxRecDepth 65536 in
theorem w_consts : constsHeld consts_1 about1 := Jvm.Lit.constsHeldB_iff.mp (by decide +kernel)
theorem w_applies : (headSpec (Jvm.Cond.code x code maxLocals ret :: tables_1) room_1).applies x e0.platform about1 = true :=
  (Spec.applies_iff w_frames).mpr ⟨w_running, w_runnable, w_alone, w_named, w_hears, w_ripe, w_room, w_tables⟩
theorem atStart : AtStart classFile x code maxLocals ret World_1 tables_1 room_1 Calls_1 rest_1 Pre_1 launch0 p0 e0 about1 theMethod args0 below0 :=
  ⟨lists_1, trivial, launch0.admits_env _ _ _, launch0.least_env, fairChoices_fair.cas, fairChoices_fair.clock, w_frames, w_args, w_heap, w_applies, ⟨w_consts, trivial⟩, w_rest, w_case⟩
end start1
theorem witness_1 : WitnessClaimed_1 := ⟨start1.p0, start1.e0, start1.about1, start1.theMethod, start1.args0, start1.below0, start1.atStart⟩
end Jvm.Pilot.@@N@@
