import JvmDerived
import JvmDerived.Pilot.@@N@@Statement
import JvmDerived.Pilot.@@N@@Code
set_option linter.unusedVariables false
set_option linter.unusedSimpArgs false
namespace Jvm.RoadKit
open Sem ClassFile Op Lib Jvm.Stand Jvm.Free Jvm.LawKit
section New
variable {p : Program} {l : Launch} {e : Env} {R : Room} {s : State} {m : MethodId} {args : Array Value} {below : List Frame} {meth : Method} {c : Code} {T : State} {locs : List Loc} {cells slots : Nat}
theorem retI (X : Stand p l e R s m args below meth c T locs cells slots) (hx : p.tables.exec = Jvm.exec) {pc : Nat} {Ls : Array Slot} {z : Int32} {rest : List Value} (hret : meth.sig.returnType = some .int) (hd : decode c.code pc = .ok (.ireturn, 1)) {fs : List Frame}
    (hl : ∀ (f : JFrame) (acts : List Action), f.method = m → f.locked = none → f.entered = [] → (doReturn e (T.setTop f) acts (some (.int z))).1 = T.setFrames fs) : Steps p.tables e below (T.setTop (mkF m pc Ls (.int z :: rest))) (T.setFrames fs) := by
  have hm' : T.vm.method? m = some meth := X.method'
  have hn : narrow .int (.int z) = .int z := rfl
  show Steps p.tables e below (T.setTop { method := m, pc := pc, locals := Ls, stack := _ :: rest, locked := none }) _
  jvm_step X.here [X.here.top, hx, hd, hm', hret, hn]
  first | (intro acts; rw [hl _ acts rfl rfl rfl]) | rw [hl _ _ rfl rfl rfl]
  exact Steps.refl _
end New
end Jvm.RoadKit
namespace Jvm.Pilot.@@N@@
open Jvm Jvm.ClassFile Sem Op Lib Jvm.Free Jvm.Stand Jvm.LawKit Jvm.RoadKit Bundle Jvm.Pilot.@@N@@.Jvm.D
theorem own_side0 {h0 : Heap} {ws : List Addr} : ∀ x ∈ ([] : List Addr), x ∈ ws ∨ h0.size ≤ x := fun _ q => nomatch q
theorem own_side1 {h0 : Heap} {ws : List Addr} {a : Addr} (h : a ∈ ws ∨ h0.size ≤ a) : ∀ x ∈ [a], x ∈ ws ∨ h0.size ≤ x := fun x q => by
  cases List.mem_singleton.mp q; exact h
theorem own_side2 {h0 : Heap} {ws : List Addr} {a b : Addr} (h : a ∈ ws ∨ h0.size ≤ a) (h' : b ∈ ws ∨ h0.size ≤ b) : ∀ x ∈ [a, b], x ∈ ws ∨ h0.size ≤ x := fun x q => by
  rcases List.mem_cons.mp q with rfl | q
  · exact h
  · exact own_side1 h' x q
theorem own_side3 {h0 : Heap} {ws : List Addr} {a b d : Addr} (h : a ∈ ws ∨ h0.size ≤ a) (h' : b ∈ ws ∨ h0.size ≤ b) (h'' : d ∈ ws ∨ h0.size ≤ d) : ∀ x ∈ [a, b, d], x ∈ ws ∨ h0.size ≤ x := fun x q => by
  rcases List.mem_cons.mp q with rfl | q
  · exact h
  · exact own_side2 h' h'' x q
theorem own_notin1 {x a : Addr} (h : x ≠ a) : x ∉ [a] := fun q => h (List.mem_singleton.mp q)
theorem own_notin2 {x a b : Addr} (h : x ≠ a) (h' : x ≠ b) : x ∉ [a, b] := fun q => by
  rcases List.mem_cons.mp q with q | q
  · exact h q
  · exact own_notin1 h' q
theorem own_notin3 {x a b d : Addr} (h : x ≠ a) (h' : x ≠ b) (h'' : x ≠ d) : x ∉ [a, b, d] := fun q => by
  rcases List.mem_cons.mp q with q | q
  · exact h q
  · exact own_notin2 h' h'' q
def maxV (a b : Int64) : Int64 := if a < b then b else a
def worthV (g s : Int64) : Int32 := if (g * (10 : Int64)) < s then 0 else 1
def expV (g q r : Int64) : Int32 := if q < g then 1 else if g = q then (if r = (0 : Int64) then 1 else 0) else 0
theorem own_mask62 (s : Int64) : 0 ≤ (s &&& (4611686018427387903 : Int64)).toInt ∧ (s &&& (4611686018427387903 : Int64)).toInt ≤ 4611686018427387903 := by
  have h : (s &&& (4611686018427387903 : Int64)).toBitVec.toNat ≤ 4611686018427387903 := by
    simp only [Int64.toBitVec_and, BitVec.toNat_and]
    exact Nat.and_le_right
  have e : (s &&& (4611686018427387903 : Int64)).toInt = ((s &&& (4611686018427387903 : Int64)).toBitVec.toNat : Int) := BitVec.toInt_eq_toNat_of_lt (by omega)
  omega
theorem own_mask59 (s : Int64) : 0 ≤ (s &&& (576460752303423487 : Int64)).toInt ∧ (s &&& (576460752303423487 : Int64)).toInt ≤ 576460752303423487 := by
  have h : (s &&& (576460752303423487 : Int64)).toBitVec.toNat ≤ 576460752303423487 := by
    simp only [Int64.toBitVec_and, BitVec.toNat_and]
    exact Nat.and_le_right
  have e : (s &&& (576460752303423487 : Int64)).toInt = ((s &&& (576460752303423487 : Int64)).toBitVec.toNat : Int) := BitVec.toInt_eq_toNat_of_lt (by omega)
  omega
theorem own_div10 (z : Int64) (h0 : 0 ≤ z.toInt) : (z / (10 : Int64)).toInt = z.toInt / 10 := by
  have h1 := z.toInt_lt
  rw [Int64.toInt_div]
  show Int.bmod (z.toInt.tdiv 10) _ = _
  rw [Int.tdiv_eq_ediv_of_nonneg h0]
  exact Int.bmod_eq_of_le (by omega) (by omega)
theorem own_rem10 (z : Int64) (h0 : 0 ≤ z.toInt) : (z - (z / (10 : Int64)) * (10 : Int64)).toInt = z.toInt % 10 := by
  have h1 := z.toInt_lt
  rw [Int64.toInt_sub, Int64.toInt_mul, own_div10 z h0]
  show Int.bmod (z.toInt - Int.bmod (z.toInt / 10 * 10) _) _ = _
  rw [Int.bmod_eq_of_le (n := z.toInt / 10 * 10) (by omega) (by omega)]
  exact (Int.bmod_eq_of_le (by omega) (by omega)).trans (by omega)
theorem own_law (g z : Int64) (hz0 : 0 ≤ z.toInt) (hz : z.toInt ≤ 4611686018427387903) (hg0 : 0 ≤ g.toInt) (hg : g.toInt ≤ 576460752303423487) : worthV g z = expV g (z / (10 : Int64)) (z - (z / (10 : Int64)) * (10 : Int64)) := by
  unfold worthV expV
  have hm : (g * (10 : Int64)).toInt = g.toInt * 10 := by
    rw [Int64.toInt_mul]; exact Int.bmod_eq_of_le (by show _ ≤ g.toInt * 10; omega) (by show g.toInt * 10 < _; omega)
  simp only [Int64.lt_iff_toInt_lt, ← Int64.toInt_inj, hm, own_div10 z hz0, own_rem10 z hz0, show (0 : Int64).toInt = 0 from rfl]
  split <;> split <;> (try split) <;> (try split) <;> first | rfl | (exfalso; omega)
theorem own_delta (p : Int32) : -1 ≤ ((((p >>> ((1 : Int32) &&& 31)) &&& (3 : Int32)) - (1 : Int32)).toInt64).toInt ∧ ((((p >>> ((1 : Int32) &&& 31)) &&& (3 : Int32)) - (1 : Int32)).toInt64).toInt ≤ 2 := by
  rw [Int32.toInt_toInt64]
  generalize (p >>> ((1 : Int32) &&& 31)) = y
  have h : (y &&& (3 : Int32)).toBitVec.toNat ≤ 3 := by
    simp only [Int32.toBitVec_and, BitVec.toNat_and]
    exact Nat.and_le_right
  have e : (y &&& (3 : Int32)).toInt = ((y &&& (3 : Int32)).toBitVec.toNat : Int) := BitVec.toInt_eq_toNat_of_lt (by omega)
  have e2 : ((y &&& (3 : Int32)) - (1 : Int32)).toInt = (y &&& (3 : Int32)).toInt - 1 := by
    rw [Int32.toInt_sub]; exact Int.bmod_eq_of_le (by show _ ≤ (y &&& (3 : Int32)).toInt - 1; omega) (by show (y &&& (3 : Int32)).toInt - 1 < _; omega)
  omega
theorem own_max (z d : Int64) (hz0 : 0 ≤ z.toInt) (hz : z.toInt ≤ 4611686018427387903) (hd1 : -1 ≤ d.toInt) (hd2 : d.toInt ≤ 2) : 0 ≤ (maxV (0 : Int64) ((z / (10 : Int64)) + d)).toInt ∧ (maxV (0 : Int64) ((z / (10 : Int64)) + d)).toInt ≤ 576460752303423487 := by
  have e : ((z / (10 : Int64)) + d).toInt = z.toInt / 10 + d.toInt := by
    rw [Int64.toInt_add, own_div10 z hz0]; exact Int.bmod_eq_of_le (by omega) (by omega)
  unfold maxV
  split
  · next h => rw [Int64.lt_iff_toInt_lt, e, show (0 : Int64).toInt = 0 from rfl] at h; omega
  · exact ⟨Int.le_refl _, by decide⟩
theorem d2_0 : decode jdk_30_method_1_code 0 = .ok (.aload_n 0, 1) := by decide +kernel
theorem d2_1 : decode jdk_30_method_1_code 1 = .ok (.invokespecial 1, 3) := by decide +kernel
theorem d2_4 : decode jdk_30_method_1_code 4 = .ok (.return_, 1) := by decide +kernel
theorem pn_0 : plainName "java/lang/Record" = true := by first | (simp [plainName, overriddenIn]; done) | decide +kernel
theorem ef_2 (m : MethodId) (o0 : Addr) : entryFrame m #[(.ref o0)] 1 = mkF m 0 #[.val (.ref o0)] [] := by first | (simp [entryFrame, mkF, argsToLocals, Value.category]; done) | rfl
def Q2  (h0 : Heap) (n0 : Nat) (v : Option Value) (h : Heap) (L : List Loc) : Prop := v = none ∧ Fr n0 L ∧ h = h0
set_option maxRecDepth 65536 in
set_option maxHeartbeats 40000000 in
theorem rm2 (l : Launch) (Z : State) (a0 : Array Value) (hw : ∀ d ∈ tables_1, d.before a0 Z = true) (ws : List Jvm.Cond) (o0 : Addr) (h0 : Heap) (n0 : Nat) (Z0 : n0 ≤ h0.size)  :
    MetFree l (⟨"java/lang/Record", "<init>", "()V"⟩ : MethodName) (head1 (Jvm.Cond.code (⟨"java/lang/Record", "<init>", "()V"⟩ : MethodName) jdk_30_method_1_code 1 none :: ws) ({ frames := 1, cells := 0, slots := 0, locals := 12 } : Room)) (fun a U => a = #[(.ref o0)] ∧ Z.Warmed39 U.vm ∧ U.heap = h0) (fun _ _ _ _ _ => True) (fun _ U o U' => ∃ v L, o = .returned v ∧ Q2 h0 n0 v U'.heap L ∧ FrameEnd U o U' L ({ frames := 1, cells := 0, slots := 0, locals := 12 } : Room).cells ({ frames := 1, cells := 0, slots := 0, locals := 12 } : Room).slots) := by
  refine MetFree.of_bodySF (plainFor_of_name pn_0) hisR ?_
  intro p e s m args below meth c s₁ Bd hml0 hP hK
  obtain ⟨rfl, hZ, hh⟩ := hP
  have hx := Bd.exec
  have hby := Bd.bytes
  have hml : c.maxLocals = 1 := hml0
  have hown : s.vm.findClass "java/lang/Record" = some m.cls := findClass_of_methodNamed Bd.named
  have hnm := (name_of_methodNamed Bd.named Bd.method).1
  have X0 : Stand p l e ({ frames := 1, cells := 0, slots := 0, locals := 12 } : Room) s m #[(.ref o0)] below meth c s₁ [] 0 0 := Stand.of_body Bd
  have e0 : s₁.heap = h0 := by rw [← hh, Bd.state]; rfl
  have N0 := Fr.nil n0
  have pre0 : ∀ t, Steps p.tables e below (s₁.setTop (mkF m 0 #[.val (.ref o0)] [])) t → Steps p.tables e below (s₁.setTop (entryFrame m #[(.ref o0)] 1)) t := fun t k => castTop (ef_2 m o0) k
  obtain ⟨T1, X1, e1, st1⟩ := initO X0 hx hZ hown (hw _ (List.mem_of_getElem? (i := 14) rfl)) (hw _ (List.mem_of_getElem? (i := 15) rfl)) (hw _ (List.mem_of_getElem? (i := 16) rfl)) e0 (g := (mkF m 1 #[.val (.ref o0)] [(.ref o0)])) rfl (by rw [hml]; rfl) rfl (hb hby d2_1) (by decide) (W := 0) (by show 2 * 0 + _ ≤ _; exact Nat.le_of_eq rfl) (by decide)
  obtain ⟨fs, hr, hrun, hended, hW, hsame⟩ := X1.leave (v := none) (fun _ => rfl)
  refine ⟨_, _, pre0 _ ?_, hrun, hended, _, _, rfl, ?_, ⟨_, rfl⟩, hW, hsame.mono (by decide) (by decide)⟩
  · show Steps p.tables e below (s₁.setTop (mkF m 0 #[.val (.ref o0)] [])) _
    refine XS.aloadN X0.here hx rfl (hb hby d2_0) rfl rfl ?_
    show Steps p.tables e below (s₁.setTop (mkF m 1 #[.val (.ref o0)] [(.ref o0)])) _
    refine st1 _ ?_
    show Steps p.tables e below (T1.setTop (mkF m 4 #[.val (.ref o0)] [])) _
    exact X1.returnOut hx Bd.returns (hb hby d2_4) hr
  · show Q2 h0 n0 _ T1.heap _
    rw [e1]
    exact ⟨rfl, N0, rfl⟩
theorem d5_0 : decode jdk_29_method_66_code 0 = .ok (.lload_n 0, 1) := by decide +kernel
theorem d5_1 : decode jdk_29_method_66_code 1 = .ok (.lload_n 2, 1) := by decide +kernel
theorem d5_2 : decode jdk_29_method_66_code 2 = .ok (.lcmp, 1) := by decide +kernel
theorem d5_3 : decode jdk_29_method_66_code 3 = .ok (.ifCond .lt 7, 3) := by decide +kernel
theorem d5_6 : decode jdk_29_method_66_code 6 = .ok (.lload_n 0, 1) := by decide +kernel
theorem d5_7 : decode jdk_29_method_66_code 7 = .ok (.goto 4, 3) := by decide +kernel
theorem d5_10 : decode jdk_29_method_66_code 10 = .ok (.lload_n 2, 1) := by decide +kernel
theorem d5_11 : decode jdk_29_method_66_code 11 = .ok (.lreturn, 1) := by decide +kernel
theorem ef_5 (m : MethodId) (q0 : Int64) (q1 : Int64) : entryFrame m #[(.long q0), (.long q1)] 4 = mkF m 0 #[.val (.long q0), .second, .val (.long q1), .second] [] := by first | (simp [entryFrame, mkF, argsToLocals, Value.category]; done) | rfl
def Q5 (q0 q1 : Int64) (h0 : Heap) (n0 : Nat) (v : Option Value) (h : Heap) (L : List Loc) : Prop := v = some (.long (maxV q0 q1)) ∧ Fr n0 L ∧ h = h0
set_option maxRecDepth 65536 in
set_option maxHeartbeats 40000000 in
theorem rm5 (l : Launch) (Z : State) (a0 : Array Value) (hw : ∀ d ∈ tables_1, d.before a0 Z = true) (ws : List Jvm.Cond) (q0 q1 : Int64) (h0 : Heap) (n0 : Nat) (Z0 : n0 ≤ h0.size)  :
    MetFree l (⟨"java/lang/Math", "max", "(JJ)J"⟩ : MethodName) (head1 (Jvm.Cond.code (⟨"java/lang/Math", "max", "(JJ)J"⟩ : MethodName) jdk_29_method_66_code 4 (some .long) :: ws) ({ frames := 0, cells := 0, slots := 0, locals := 0 } : Room)) (fun a U => a = #[(.long q0), (.long q1)] ∧ Z.Warmed39 U.vm ∧ U.heap = h0) (fun _ _ _ _ _ => True) (fun _ U o U' => ∃ v L, o = .returned v ∧ Q5 q0 q1 h0 n0 v U'.heap L ∧ FrameEnd U o U' L ({ frames := 0, cells := 0, slots := 0, locals := 0 } : Room).cells ({ frames := 0, cells := 0, slots := 0, locals := 0 } : Room).slots) := by
  refine MetFree.of_bodySF (Jvm.Free.JP.mathPlain rfl (by decide +kernel)) hisR ?_
  intro p e s m args below meth c s₁ Bd hml0 hP hK
  obtain ⟨rfl, hZ, hh⟩ := hP
  have hx := Bd.exec
  have hby := Bd.bytes
  have hml : c.maxLocals = 4 := hml0
  have hown : s.vm.findClass "java/lang/Math" = some m.cls := findClass_of_methodNamed Bd.named
  have hnm := (name_of_methodNamed Bd.named Bd.method).1
  have X0 : Stand p l e ({ frames := 0, cells := 0, slots := 0, locals := 0 } : Room) s m #[(.long q0), (.long q1)] below meth c s₁ [] 0 0 := Stand.of_body Bd
  have e0 : s₁.heap = h0 := by rw [← hh, Bd.state]; rfl
  have N0 := Fr.nil n0
  have pre0 : ∀ t, Steps p.tables e below (s₁.setTop (mkF m 0 #[.val (.long q0), .second, .val (.long q1), .second] [])) t → Steps p.tables e below (s₁.setTop (entryFrame m #[(.long q0), (.long q1)] 4)) t := fun t k => castTop (ef_5 m q0 q1) k
  have pre1 : ∀ t, Steps p.tables e below (s₁.setTop (mkF m 3 #[.val (.long q0), .second, .val (.long q1), .second] [(.int (lcmpW q0 q1))])) t → Steps p.tables e below (s₁.setTop (entryFrame m #[(.long q0), (.long q1)] 4)) t := fun t kt => pre0 t (by
      show Steps p.tables e below (s₁.setTop (mkF m 0 #[.val (.long q0), .second, .val (.long q1), .second] [])) _
      refine XS.lloadN X0.here hx rfl (hb hby d5_0) rfl ?_
      show Steps p.tables e below (s₁.setTop (mkF m 1 #[.val (.long q0), .second, .val (.long q1), .second] [(.long q0)])) _
      refine XS.lloadN X0.here hx rfl (hb hby d5_1) rfl ?_
      show Steps p.tables e below (s₁.setTop (mkF m 2 #[.val (.long q0), .second, .val (.long q1), .second] [(.long q1), (.long q0)])) _
      refine XS.lcmp X0.here hx rfl (hb hby d5_2) rfl ?_
      exact kt)
  by_cases hc3 : q0 < q1
  · obtain ⟨fs, hr, hrun, hended, hW, hsame⟩ := X0.leave (v := some (.long q1)) (fun h => by rw [Bd.returns] at h; cases h)
    refine ⟨_, _, pre1 _ ?_, hrun, hended, _, _, rfl, ?_, ⟨_, rfl⟩, hW, hsame.mono (by decide) (by decide)⟩
    · show Steps p.tables e below (s₁.setTop (mkF m 3 #[.val (.long q0), .second, .val (.long q1), .second] [(.int (lcmpW q0 q1))])) _
      refine XS.ifYes X0.here hx rfl (pc0 := 3) (pc' := 10) rfl (hb hby d5_3) rfl ((if0 _ _).trans (tlt (show (lcmpW q0 q1) < (0 : Int32) from ((lw_lt _ _).mpr hc3))).1) (by decide) (by decide) ?_
      show Steps p.tables e below (s₁.setTop (mkF m 10 #[.val (.long q0), .second, .val (.long q1), .second] [])) _
      refine XS.lloadN X0.here hx rfl (hb hby d5_10) rfl ?_
      show Steps p.tables e below (s₁.setTop (mkF m 11 #[.val (.long q0), .second, .val (.long q1), .second] [(.long q1)])) _
      jvm_step X0.here [X0.here.top, hx, (hb hby d5_11), X0.method', Bd.returns, narrow]
      first | (intro acts; rw [hr _ acts rfl rfl rfl]) | rw [hr _ _ rfl rfl rfl]
      exact Steps.refl _
    · show Q5 q0 q1 h0 n0 _ s₁.heap _
      rw [e0]
      exact ⟨(by rw [maxV, if_pos hc3]), N0, rfl⟩
  · obtain ⟨fs, hr, hrun, hended, hW, hsame⟩ := X0.leave (v := some (.long q0)) (fun h => by rw [Bd.returns] at h; cases h)
    refine ⟨_, _, pre1 _ ?_, hrun, hended, _, _, rfl, ?_, ⟨_, rfl⟩, hW, hsame.mono (by decide) (by decide)⟩
    · show Steps p.tables e below (s₁.setTop (mkF m 3 #[.val (.long q0), .second, .val (.long q1), .second] [(.int (lcmpW q0 q1))])) _
      refine XS.ifNo X0.here hx rfl (hb hby d5_3) rfl ((if0 _ _).trans (flt (show ¬ ((lcmpW q0 q1) < (0 : Int32)) from (fun q => hc3 ((lw_lt _ _).mp q)))).1) ?_
      show Steps p.tables e below (s₁.setTop (mkF m 6 #[.val (.long q0), .second, .val (.long q1), .second] [])) _
      refine XS.lloadN X0.here hx rfl (hb hby d5_6) rfl ?_
      show Steps p.tables e below (s₁.setTop (mkF m 7 #[.val (.long q0), .second, .val (.long q1), .second] [(.long q0)])) _
      refine XS.goto X0.here hx rfl (pc0 := 7) (pc' := 11) rfl (hb hby d5_7) (by decide) (by decide) ?_
      show Steps p.tables e below (s₁.setTop (mkF m 11 #[.val (.long q0), .second, .val (.long q1), .second] [(.long q0)])) _
      jvm_step X0.here [X0.here.top, hx, (hb hby d5_11), X0.method', Bd.returns, narrow]
      first | (intro acts; rw [hr _ acts rfl rfl rfl]) | rw [hr _ _ rfl rfl rfl]
      exact Steps.refl _
    · show Q5 q0 q1 h0 n0 _ s₁.heap _
      rw [e0]
      exact ⟨(by rw [maxV, if_neg hc3]), N0, rfl⟩
theorem d1_0 : decode prog_22_method_1_code 0 = .ok (.aload_n 0, 1) := by decide +kernel
theorem d1_1 : decode prog_22_method_1_code 1 = .ok (.invokespecial 1, 3) := by decide +kernel
theorem d1_4 : decode prog_22_method_1_code 4 = .ok (.aload_n 0, 1) := by decide +kernel
theorem d1_5 : decode prog_22_method_1_code 5 = .ok (.lload_n 1, 1) := by decide +kernel
theorem d1_6 : decode prog_22_method_1_code 6 = .ok (.putfield 7, 3) := by decide +kernel
theorem d1_9 : decode prog_22_method_1_code 9 = .ok (.aload_n 0, 1) := by decide +kernel
theorem d1_10 : decode prog_22_method_1_code 10 = .ok (.lload_n 3, 1) := by decide +kernel
theorem d1_11 : decode prog_22_method_1_code 11 = .ok (.putfield 13, 3) := by decide +kernel
theorem d1_14 : decode prog_22_method_1_code 14 = .ok (.return_, 1) := by decide +kernel
theorem pn_2 : plainName "com/example/heartwood/heartwood/store/GarbageEstimate" = true := by first | (simp [plainName, overriddenIn]; done) | decide +kernel
theorem pd_0 : parseMethodDescriptor "()V" = some ⟨[], none⟩ := by decide +kernel
theorem ef_1 (m : MethodId) (o0 : Addr) (q1 : Int64) (q2 : Int64) : entryFrame m #[(.ref o0), (.long q1), (.long q2)] 5 = mkF m 0 #[.val (.ref o0), .val (.long q1), .second, .val (.long q2), .second] [] := by first | (simp [entryFrame, mkF, argsToLocals, Value.category]; done) | rfl
def Q1 (Z : State) (o0 : Addr) (q1 q2 : Int64) (h0 : Heap) (n0 : Nat) (v : Option Value) (h : Heap) (L : List Loc) : Prop := v = none ∧ Fr n0 L ∧ Keep h0 h [o0] ∧ Exa Z h o0 "com/example/heartwood/heartwood/store/GarbageEstimate" ∧ Fld Z h o0 "com/example/heartwood/heartwood/store/GarbageEstimate" "garbage" "J" (.long q1) ∧ Fld Z h o0 "com/example/heartwood/heartwood/store/GarbageEstimate" "size" "J" (.long q2)
set_option maxRecDepth 65536 in
set_option maxHeartbeats 40000000 in
theorem rm1 (l : Launch) (Z : State) (a0 : Array Value) (hw : ∀ d ∈ tables_1, d.before a0 Z = true) (ws : List Jvm.Cond) (o0 : Addr) (q1 q2 : Int64) (h0 : Heap) (n0 : Nat) (Z0 : n0 ≤ h0.size) (E_o0 : Exa Z h0 o0 "com/example/heartwood/heartwood/store/GarbageEstimate") (Fg : Fld Z h0 o0 "com/example/heartwood/heartwood/store/GarbageEstimate" "garbage" "J" (.long (0 : Int64))) (Fs : Fld Z h0 o0 "com/example/heartwood/heartwood/store/GarbageEstimate" "size" "J" (.long (0 : Int64))) (g_o0 : n0 ≤ o0) :
    MetFree l (⟨"com/example/heartwood/heartwood/store/GarbageEstimate", "<init>", "(JJ)V"⟩ : MethodName) (head1 (Jvm.Cond.code (⟨"com/example/heartwood/heartwood/store/GarbageEstimate", "<init>", "(JJ)V"⟩ : MethodName) prog_22_method_1_code 5 none :: ws) ({ frames := 2, cells := 0, slots := 0, locals := 24 } : Room)) (fun a U => a = #[(.ref o0), (.long q1), (.long q2)] ∧ Z.Warmed39 U.vm ∧ U.heap = h0) (fun _ _ _ _ _ => True) (fun _ U o U' => ∃ v L, o = .returned v ∧ Q1 Z o0 q1 q2 h0 n0 v U'.heap L ∧ FrameEnd U o U' L ({ frames := 2, cells := 0, slots := 0, locals := 24 } : Room).cells ({ frames := 2, cells := 0, slots := 0, locals := 24 } : Room).slots) := by
  refine MetFree.of_bodySF (plainFor_of_name pn_2) hisR ?_
  intro p e s m args below meth c s₁ Bd hml0 hP hK
  obtain ⟨rfl, hZ, hh⟩ := hP
  have hx := Bd.exec
  have hby := Bd.bytes
  have hml : c.maxLocals = 5 := hml0
  have hown : s.vm.findClass "com/example/heartwood/heartwood/store/GarbageEstimate" = some m.cls := findClass_of_methodNamed Bd.named
  have hnm := (name_of_methodNamed Bd.named Bd.method).1
  have X0 : Stand p l e ({ frames := 2, cells := 0, slots := 0, locals := 24 } : Room) s m #[(.ref o0), (.long q1), (.long q2)] below meth c s₁ [] 0 0 := Stand.of_body Bd
  have e0 : s₁.heap = h0 := by rw [← hh, Bd.state]; rfl
  have N0 := Fr.nil n0
  have pre0 : ∀ t, Steps p.tables e below (s₁.setTop (mkF m 0 #[.val (.ref o0), .val (.long q1), .second, .val (.long q2), .second] [])) t → Steps p.tables e below (s₁.setTop (entryFrame m #[(.ref o0), (.long q1), (.long q2)] 5)) t := fun t k => castTop (ef_1 m o0 q1 q2) k
  obtain ⟨_, _, ⟨T1, L1, k1, n1⟩, -, X1, ⟨Lc1, hQ1, l1, y1, z1⟩, st1⟩ := X0.specialBack hx (y := (⟨"java/lang/Record", "<init>", "()V"⟩ : MethodName)) rfl hown (mvT hZ (hw _ (List.mem_of_getElem? (i := 9) rfl))) (mvT hZ (hw _ (List.mem_of_getElem? (i := 10) rfl))) (mvT hZ (hw _ (List.mem_of_getElem? (i := 13) rfl))) (by decide) (backOf (W := 0) (rm2 l Z a0 hw [] o0 h0 n0 Z0 ) hZ (hw _ (List.mem_of_getElem? (i := 13) rfl)) (hw _ (List.mem_of_getElem? (i := 12) rfl)) (by decide) (by decide)) (g := (mkF m 1 #[.val (.ref o0), .val (.long q1), .second, .val (.long q2), .second] [(.ref o0)])) rfl (by rw [hml]; rfl) (Steps.refl _) (a := o0) (argsL := []) (rest := []) (lenOf pd_0 rfl) rfl (by show 2 * 0 + _ ≤ _; exact Nat.le_of_eq rfl) (hb hby d1_1) (fun _ _ => ⟨rfl, e0, (by decide : 0 + 0 ≤ _), (by decide : 0 + 0 ≤ _)⟩)
  dsimp only [Pt.U, Pt.locs, Pt.cells, Pt.slots] at X1 l1 y1 z1 st1 hQ1
  subst l1 y1 z1
  obtain ⟨rfl, N1q, e1⟩ := hQ1
  have N1 := Fr.app N0 N1q
  obtain ⟨T2, h2, X2, e2, W2, st2⟩ := putF X1 hx hZ hown (host := "") (Or.inl (hw _ (List.mem_of_getElem? (i := 17) rfl))) Via.refl e1 Fg E_o0 (Or.inr ⟨(hw _ (List.mem_of_getElem? (i := 18) rfl)), rfl, hnm⟩) (hw _ (List.mem_of_getElem? (i := 4) rfl)) (ty := .long) (by decide) rfl rfl (g := (mkF m 6 #[.val (.ref o0), .val (.long q1), .second, .val (.long q2), .second] [(.long q1), (.ref o0)])) rfl rfl (hb hby d1_6)
  have Fw2 := Fg.same W2
  have K2 : Keep h0 h2 [o0] := Keep.wr (Keep.refl h0 [o0]) W2 (Or.inl (List.mem_of_getElem? (i := 0) rfl))
  have Z2 : n0 ≤ h2.size := Nat.le_trans Z0 K2.1
  have N2 := Fr.snoc X2 N1 g_o0
  have f3 := (E_o0.wr W2)
  have f4 := (Fs.other W2 (Or.inr (slot_ne (Or.inr (hw _ (List.mem_of_getElem? (i := 20) rfl))) (Or.inr (hw _ (List.mem_of_getElem? (i := 18) rfl))) (by decide) (t := .long) (t' := .long) (by decide) (by decide))))
  obtain ⟨T5, h5, X5, e5, W5, st5⟩ := putF X2 hx hZ hown (host := "") (Or.inl (hw _ (List.mem_of_getElem? (i := 19) rfl))) Via.refl e2 f4 f3 (Or.inr ⟨(hw _ (List.mem_of_getElem? (i := 20) rfl)), rfl, hnm⟩) (hw _ (List.mem_of_getElem? (i := 4) rfl)) (ty := .long) (by decide) rfl rfl (g := (mkF m 11 #[.val (.ref o0), .val (.long q1), .second, .val (.long q2), .second] [(.long q2), (.ref o0)])) rfl rfl (hb hby d1_11)
  have Fw5 := f4.same W5
  have K5 : Keep h0 h5 [o0] := Keep.wr K2 W5 (Or.inl (List.mem_of_getElem? (i := 0) rfl))
  have Z5 : n0 ≤ h5.size := Nat.le_trans Z0 K5.1
  have N5 := Fr.snoc X5 N2 g_o0
  have f6 := (f3.wr W5)
  have f7 := (Fw2.other W5 (Or.inr (slot_ne (Or.inr (hw _ (List.mem_of_getElem? (i := 18) rfl))) (Or.inr (hw _ (List.mem_of_getElem? (i := 20) rfl))) (by decide) (t := .long) (t' := .long) (by decide) (by decide))))
  obtain ⟨fs, hr, hrun, hended, hW, hsame⟩ := X5.leave (v := none) (fun _ => rfl)
  refine ⟨_, _, pre0 _ ?_, hrun, hended, _, _, rfl, ?_, ⟨_, rfl⟩, hW, hsame.mono (by decide) (by decide)⟩
  · show Steps p.tables e below (s₁.setTop (mkF m 0 #[.val (.ref o0), .val (.long q1), .second, .val (.long q2), .second] [])) _
    refine XS.aloadN X0.here hx rfl (hb hby d1_0) rfl rfl ?_
    show Steps p.tables e below (s₁.setTop (mkF m 1 #[.val (.ref o0), .val (.long q1), .second, .val (.long q2), .second] [(.ref o0)])) _
    refine st1.trans ?_
    show Steps p.tables e below (T1.setTop (mkF m 4 #[.val (.ref o0), .val (.long q1), .second, .val (.long q2), .second] [])) _
    refine XS.aloadN X1.here hx rfl (hb hby d1_4) rfl rfl ?_
    show Steps p.tables e below (T1.setTop (mkF m 5 #[.val (.ref o0), .val (.long q1), .second, .val (.long q2), .second] [(.ref o0)])) _
    refine XS.lloadN X1.here hx rfl (hb hby d1_5) rfl ?_
    show Steps p.tables e below (T1.setTop (mkF m 6 #[.val (.ref o0), .val (.long q1), .second, .val (.long q2), .second] [(.long q1), (.ref o0)])) _
    refine st2 _ ?_
    show Steps p.tables e below (T2.setTop (mkF m 9 #[.val (.ref o0), .val (.long q1), .second, .val (.long q2), .second] [])) _
    refine XS.aloadN X2.here hx rfl (hb hby d1_9) rfl rfl ?_
    show Steps p.tables e below (T2.setTop (mkF m 10 #[.val (.ref o0), .val (.long q1), .second, .val (.long q2), .second] [(.ref o0)])) _
    refine XS.lloadN X2.here hx rfl (hb hby d1_10) rfl ?_
    show Steps p.tables e below (T2.setTop (mkF m 11 #[.val (.ref o0), .val (.long q1), .second, .val (.long q2), .second] [(.long q2), (.ref o0)])) _
    refine st5 _ ?_
    show Steps p.tables e below (T5.setTop (mkF m 14 #[.val (.ref o0), .val (.long q1), .second, .val (.long q2), .second] [])) _
    exact X5.returnOut hx Bd.returns (hb hby d1_14) hr
  · show Q1 Z o0 q1 q2 h0 n0 _ T5.heap _
    rw [e5]
    exact ⟨rfl, N5, K5, f6, f7, Fw5⟩
theorem d4_0 : decode prog_22_method_2_code 0 = .ok (.aload_n 0, 1) := by decide +kernel
theorem d4_1 : decode prog_22_method_2_code 1 = .ok (.getfield 7, 3) := by decide +kernel
theorem d4_4 : decode prog_22_method_2_code 4 = .ok (.ldc2_w 16, 3) := by decide +kernel
theorem d4_7 : decode prog_22_method_2_code 7 = .ok (.lmul, 1) := by decide +kernel
theorem d4_8 : decode prog_22_method_2_code 8 = .ok (.aload_n 0, 1) := by decide +kernel
theorem d4_9 : decode prog_22_method_2_code 9 = .ok (.getfield 13, 3) := by decide +kernel
theorem d4_12 : decode prog_22_method_2_code 12 = .ok (.lcmp, 1) := by decide +kernel
theorem d4_13 : decode prog_22_method_2_code 13 = .ok (.ifCond .lt 7, 3) := by decide +kernel
theorem d4_16 : decode prog_22_method_2_code 16 = .ok (.iconst 1, 1) := by decide +kernel
theorem d4_17 : decode prog_22_method_2_code 17 = .ok (.goto 4, 3) := by decide +kernel
theorem d4_20 : decode prog_22_method_2_code 20 = .ok (.iconst 0, 1) := by decide +kernel
theorem d4_21 : decode prog_22_method_2_code 21 = .ok (.ireturn, 1) := by decide +kernel
theorem ef_4 (m : MethodId) (o0 : Addr) : entryFrame m #[(.ref o0)] 1 = mkF m 0 #[.val (.ref o0)] [] := by first | (simp [entryFrame, mkF, argsToLocals, Value.category]; done) | rfl
def Q4 (g z : Int64) (h0 : Heap) (n0 : Nat) (v : Option Value) (h : Heap) (L : List Loc) : Prop := v = some (.int (worthV g z)) ∧ Fr n0 L ∧ h = h0
set_option maxRecDepth 65536 in
set_option maxHeartbeats 40000000 in
theorem rm4 (l : Launch) (Z : State) (a0 : Array Value) (hw : ∀ d ∈ tables_1, d.before a0 Z = true) (ws : List Jvm.Cond) (o0 : Addr) (g z : Int64) (h0 : Heap) (n0 : Nat) (Z0 : n0 ≤ h0.size) (Fg : Fld Z h0 o0 "com/example/heartwood/heartwood/store/GarbageEstimate" "garbage" "J" (.long g)) (Fs : Fld Z h0 o0 "com/example/heartwood/heartwood/store/GarbageEstimate" "size" "J" (.long z)) :
    MetFree l (⟨"com/example/heartwood/heartwood/store/GarbageEstimate", "worthACycle", "()Z"⟩ : MethodName) (head1 (Jvm.Cond.code (⟨"com/example/heartwood/heartwood/store/GarbageEstimate", "worthACycle", "()Z"⟩ : MethodName) prog_22_method_2_code 1 (some .boolean) :: ws) ({ frames := 0, cells := 0, slots := 0, locals := 0 } : Room)) (fun a U => a = #[(.ref o0)] ∧ Z.Warmed39 U.vm ∧ U.heap = h0) (fun _ _ _ _ _ => True) (fun _ U o U' => ∃ v L, o = .returned v ∧ Q4 g z h0 n0 v U'.heap L ∧ FrameEnd U o U' L ({ frames := 0, cells := 0, slots := 0, locals := 0 } : Room).cells ({ frames := 0, cells := 0, slots := 0, locals := 0 } : Room).slots) := by
  refine MetFree.of_bodySF (plainFor_of_name pn_2) hisR ?_
  intro p e s m args below meth c s₁ Bd hml0 hP hK
  obtain ⟨rfl, hZ, hh⟩ := hP
  have hx := Bd.exec
  have hby := Bd.bytes
  have hml : c.maxLocals = 1 := hml0
  have hown : s.vm.findClass "com/example/heartwood/heartwood/store/GarbageEstimate" = some m.cls := findClass_of_methodNamed Bd.named
  have hnm := (name_of_methodNamed Bd.named Bd.method).1
  have X0 : Stand p l e ({ frames := 0, cells := 0, slots := 0, locals := 0 } : Room) s m #[(.ref o0)] below meth c s₁ [] 0 0 := Stand.of_body Bd
  have e0 : s₁.heap = h0 := by rw [← hh, Bd.state]; rfl
  have N0 := Fr.nil n0
  have pre0 : ∀ t, Steps p.tables e below (s₁.setTop (mkF m 0 #[.val (.ref o0)] [])) t → Steps p.tables e below (s₁.setTop (entryFrame m #[(.ref o0)] 1)) t := fun t k => castTop (ef_4 m o0) k
  obtain ⟨T1, X1, e1, st1⟩ := getF X0 hx hZ hown (host := "") (Or.inl (hw _ (List.mem_of_getElem? (i := 17) rfl))) Via.refl e0 Fg (g := (mkF m 1 #[.val (.ref o0)] [(.ref o0)])) rfl rfl (hb hby d4_1)
  obtain ⟨T2, X2, e2, st2⟩ := getF X1 hx hZ hown (host := "") (Or.inl (hw _ (List.mem_of_getElem? (i := 19) rfl))) Via.refl e1 Fs (g := (mkF m 9 #[.val (.ref o0)] [(.ref o0), (.long (g * (10 : Int64)))])) rfl rfl (hb hby d4_9)
  have pre3 : ∀ t, Steps p.tables e below (T2.setTop (mkF m 13 #[.val (.ref o0)] [(.int (lcmpW (g * (10 : Int64)) z))])) t → Steps p.tables e below (s₁.setTop (entryFrame m #[(.ref o0)] 1)) t := fun t kt => pre0 t (by
      show Steps p.tables e below (s₁.setTop (mkF m 0 #[.val (.ref o0)] [])) _
      refine XS.aloadN X0.here hx rfl (hb hby d4_0) rfl rfl ?_
      show Steps p.tables e below (s₁.setTop (mkF m 1 #[.val (.ref o0)] [(.ref o0)])) _
      refine st1 _ ?_
      show Steps p.tables e below (T1.setTop (mkF m 4 #[.val (.ref o0)] [(.long g)])) _
      refine X1.ldc2J hx hown (mvT hZ (hw _ (List.mem_of_getElem? (i := 26) rfl))) (g := (mkF m 4 #[.val (.ref o0)] [(.long g)])) rfl (hb hby d4_4) ?_
      show Steps p.tables e below (T1.setTop (mkF m 7 #[.val (.ref o0)] [(.long (10 : Int64)), (.long g)])) _
      refine XS.lmul X1.here hx rfl (hb hby d4_7) rfl ?_
      show Steps p.tables e below (T1.setTop (mkF m 8 #[.val (.ref o0)] [(.long (g * (10 : Int64)))])) _
      refine XS.aloadN X1.here hx rfl (hb hby d4_8) rfl rfl ?_
      show Steps p.tables e below (T1.setTop (mkF m 9 #[.val (.ref o0)] [(.ref o0), (.long (g * (10 : Int64)))])) _
      refine st2 _ ?_
      show Steps p.tables e below (T2.setTop (mkF m 12 #[.val (.ref o0)] [(.long z), (.long (g * (10 : Int64)))])) _
      refine XS.lcmp X2.here hx rfl (hb hby d4_12) rfl ?_
      exact kt)
  by_cases hc13 : (g * (10 : Int64)) < z
  · obtain ⟨fs, hr, hrun, hended, hW, hsame⟩ := X2.leave (v := some (.int (0 : Int32))) (fun h => by rw [Bd.returns] at h; cases h)
    refine ⟨_, _, pre3 _ ?_, hrun, hended, _, _, rfl, ?_, ⟨_, rfl⟩, hW, hsame.mono (by decide) (by decide)⟩
    · show Steps p.tables e below (T2.setTop (mkF m 13 #[.val (.ref o0)] [(.int (lcmpW (g * (10 : Int64)) z))])) _
      refine XS.ifYes X2.here hx rfl (pc0 := 13) (pc' := 20) rfl (hb hby d4_13) rfl ((if0 _ _).trans (tlt (show (lcmpW (g * (10 : Int64)) z) < (0 : Int32) from ((lw_lt _ _).mpr hc13))).1) (by decide) (by decide) ?_
      show Steps p.tables e below (T2.setTop (mkF m 20 #[.val (.ref o0)] [])) _
      refine XS.iconst X2.here hx rfl (hb hby d4_20) ?_
      show Steps p.tables e below (T2.setTop (mkF m 21 #[.val (.ref o0)] [(.int (0 : Int32))])) _
      exact retN X2 hx (t := .boolean) Bd.returns (by simp) (hb hby d4_21) hr
    · show Q4 g z h0 n0 _ T2.heap _
      rw [e2]
      exact ⟨(by rw [worthV, if_pos hc13]), N0, rfl⟩
  · obtain ⟨fs, hr, hrun, hended, hW, hsame⟩ := X2.leave (v := some (.int (1 : Int32))) (fun h => by rw [Bd.returns] at h; cases h)
    refine ⟨_, _, pre3 _ ?_, hrun, hended, _, _, rfl, ?_, ⟨_, rfl⟩, hW, hsame.mono (by decide) (by decide)⟩
    · show Steps p.tables e below (T2.setTop (mkF m 13 #[.val (.ref o0)] [(.int (lcmpW (g * (10 : Int64)) z))])) _
      refine XS.ifNo X2.here hx rfl (hb hby d4_13) rfl ((if0 _ _).trans (flt (show ¬ ((lcmpW (g * (10 : Int64)) z) < (0 : Int32)) from (fun q => hc13 ((lw_lt _ _).mp q)))).1) ?_
      show Steps p.tables e below (T2.setTop (mkF m 16 #[.val (.ref o0)] [])) _
      refine XS.iconst X2.here hx rfl (hb hby d4_16) ?_
      show Steps p.tables e below (T2.setTop (mkF m 17 #[.val (.ref o0)] [(.int (1 : Int32))])) _
      refine XS.goto X2.here hx rfl (pc0 := 17) (pc' := 21) rfl (hb hby d4_17) (by decide) (by decide) ?_
      show Steps p.tables e below (T2.setTop (mkF m 21 #[.val (.ref o0)] [(.int (1 : Int32))])) _
      exact retN X2 hx (t := .boolean) Bd.returns (by simp) (hb hby d4_21) hr
    · show Q4 g z h0 n0 _ T2.heap _
      rw [e2]
      exact ⟨(by rw [worthV, if_neg hc13]), N0, rfl⟩
theorem pn_3 : plainName "com/example/heartwood/heartwood/store/GarbageEstimateWorthACyclePinLaw" = true := by first | (simp [plainName, overriddenIn]; done) | decide +kernel
theorem pd_1 : parseMethodDescriptor "(JJ)V" = some ⟨[.long, .long], none⟩ := by decide +kernel
theorem pd_2 : parseMethodDescriptor "()Z" = some ⟨[], some .boolean⟩ := by decide +kernel
theorem pd_3 : parseMethodDescriptor "(JJ)J" = some ⟨[.long, .long], some .long⟩ := by decide +kernel
theorem ef_0 (m : MethodId) (q0 : Int64) (q1 : Int64) (p2 : Int32) : entryFrame m #[(.long q0), (.long q1), (.int p2)] maxLocals = mkF m 0 #[.val (.long q0), .second, .val (.long q1), .second, .val (.int p2), .unset, .unset, .unset, .unset, .unset, .unset, .unset, .unset, .unset, .unset] [] := by first | (simp [entryFrame, mkF, argsToLocals, Value.category, maxLocals]; done) | rfl
def Q0 (h0 : Heap) (n0 : Nat) (v : Option Value) (h : Heap) (L : List Loc) : Prop := v = some (.int 1) ∧ Fr n0 L
set_option maxRecDepth 65536 in
set_option maxHeartbeats 40000000 in
theorem rm0 (l : Launch) (Z : State) (a0 : Array Value) (hw : ∀ d ∈ tables_1, d.before a0 Z = true) (ws : List Jvm.Cond) (q0 q1 : Int64) (p2 : Int32) (h0 : Heap) (n0 : Nat) (Z0 : n0 ≤ h0.size)  :
    MetFree l x (head1 (Jvm.Cond.code x code maxLocals ret :: ws) room_1) (fun a U => a = #[(.long q0), (.long q1), (.int p2)] ∧ Z.Warmed39 U.vm ∧ U.heap = h0) (fun _ _ _ _ _ => True) (fun _ U o U' => ∃ v L, o = .returned v ∧ Q0 h0 n0 v U'.heap L ∧ FrameEnd U o U' L 1 2) := by
  refine MetFree.of_bodySF (plainFor_of_name pn_3) hisR ?_
  intro p e s m args below meth c s₁ Bd hml0 hP hK
  obtain ⟨rfl, hZ, hh⟩ := hP
  have hx := Bd.exec
  have hby := Bd.bytes
  have hml : c.maxLocals = 15 := hml0
  have hown : s.vm.findClass "com/example/heartwood/heartwood/store/GarbageEstimateWorthACyclePinLaw" = some m.cls := findClass_of_methodNamed Bd.named
  have hnm := (name_of_methodNamed Bd.named Bd.method).1
  have X0 : Stand p l e room_1 s m #[(.long q0), (.long q1), (.int p2)] below meth c s₁ [] 0 0 := Stand.of_body Bd
  have e0 : s₁.heap = h0 := by rw [← hh, Bd.state]; rfl
  have N0 := Fr.nil n0
  have pre0 : ∀ t, Steps p.tables e below (s₁.setTop (mkF m 0 #[.val (.long q0), .second, .val (.long q1), .second, .val (.int p2), .unset, .unset, .unset, .unset, .unset, .unset, .unset, .unset, .unset, .unset] [])) t → Steps p.tables e below (s₁.setTop (entryFrame m #[(.long q0), (.long q1), (.int p2)] maxLocals)) t := fun t k => castTop (ef_0 m q0 q1 p2) k
  have pre1 : ∀ t, Steps p.tables e below (s₁.setTop (mkF m 27 #[.val (.long q0), .second, .val (.long q1), .second, .val (.int p2), .val (.long (q1 &&& (4611686018427387903 : Int64))), .second, .val (.long ((q1 &&& (4611686018427387903 : Int64)) / (10 : Int64))), .second, .val (.long ((q1 &&& (4611686018427387903 : Int64)) - ((q1 &&& (4611686018427387903 : Int64)) / (10 : Int64)) * (10 : Int64))), .second, .unset, .unset, .unset, .unset] [(.int (p2 &&& (1 : Int32)))])) t → Steps p.tables e below (s₁.setTop (entryFrame m #[(.long q0), (.long q1), (.int p2)] maxLocals)) t := fun t kt => pre0 t (by
      show Steps p.tables e below (s₁.setTop (mkF m 0 #[.val (.long q0), .second, .val (.long q1), .second, .val (.int p2), .unset, .unset, .unset, .unset, .unset, .unset, .unset, .unset, .unset, .unset] [])) _
      refine XS.lloadN X0.here hx rfl (hb hby at_0) rfl ?_
      show Steps p.tables e below (s₁.setTop (mkF m 1 #[.val (.long q0), .second, .val (.long q1), .second, .val (.int p2), .unset, .unset, .unset, .unset, .unset, .unset, .unset, .unset, .unset, .unset] [(.long q1)])) _
      refine X0.ldc2J hx hown (mvT hZ (hw _ (List.mem_of_getElem? (i := 0) rfl))) (g := (mkF m 1 #[.val (.long q0), .second, .val (.long q1), .second, .val (.int p2), .unset, .unset, .unset, .unset, .unset, .unset, .unset, .unset, .unset, .unset] [(.long q1)])) rfl (hb hby at_1) ?_
      show Steps p.tables e below (s₁.setTop (mkF m 4 #[.val (.long q0), .second, .val (.long q1), .second, .val (.int p2), .unset, .unset, .unset, .unset, .unset, .unset, .unset, .unset, .unset, .unset] [(.long (4611686018427387903 : Int64)), (.long q1)])) _
      refine XS.land X0.here hx rfl (hb hby at_4) rfl ?_
      show Steps p.tables e below (s₁.setTop (mkF m 5 #[.val (.long q0), .second, .val (.long q1), .second, .val (.int p2), .unset, .unset, .unset, .unset, .unset, .unset, .unset, .unset, .unset, .unset] [(.long (q1 &&& (4611686018427387903 : Int64)))])) _
      refine XS.lstore X0.here hx rfl (hb hby at_5) rfl (l' := #[.val (.long q0), .second, .val (.long q1), .second, .val (.int p2), .val (.long (q1 &&& (4611686018427387903 : Int64))), .second, .unset, .unset, .unset, .unset, .unset, .unset, .unset, .unset]) rfl ?_
      show Steps p.tables e below (s₁.setTop (mkF m 7 #[.val (.long q0), .second, .val (.long q1), .second, .val (.int p2), .val (.long (q1 &&& (4611686018427387903 : Int64))), .second, .unset, .unset, .unset, .unset, .unset, .unset, .unset, .unset] [])) _
      refine XS.lload X0.here hx rfl (hb hby at_7) rfl ?_
      show Steps p.tables e below (s₁.setTop (mkF m 9 #[.val (.long q0), .second, .val (.long q1), .second, .val (.int p2), .val (.long (q1 &&& (4611686018427387903 : Int64))), .second, .unset, .unset, .unset, .unset, .unset, .unset, .unset, .unset] [(.long (q1 &&& (4611686018427387903 : Int64)))])) _
      refine X0.ldc2J hx hown (mvT hZ (hw _ (List.mem_of_getElem? (i := 1) rfl))) (g := (mkF m 9 #[.val (.long q0), .second, .val (.long q1), .second, .val (.int p2), .val (.long (q1 &&& (4611686018427387903 : Int64))), .second, .unset, .unset, .unset, .unset, .unset, .unset, .unset, .unset] [(.long (q1 &&& (4611686018427387903 : Int64)))])) rfl (hb hby at_9) ?_
      show Steps p.tables e below (s₁.setTop (mkF m 12 #[.val (.long q0), .second, .val (.long q1), .second, .val (.int p2), .val (.long (q1 &&& (4611686018427387903 : Int64))), .second, .unset, .unset, .unset, .unset, .unset, .unset, .unset, .unset] [(.long (10 : Int64)), (.long (q1 &&& (4611686018427387903 : Int64)))])) _
      refine XS.ldiv X0.here hx rfl (hb hby at_12) rfl (by decide) ?_
      show Steps p.tables e below (s₁.setTop (mkF m 13 #[.val (.long q0), .second, .val (.long q1), .second, .val (.int p2), .val (.long (q1 &&& (4611686018427387903 : Int64))), .second, .unset, .unset, .unset, .unset, .unset, .unset, .unset, .unset] [(.long ((q1 &&& (4611686018427387903 : Int64)) / (10 : Int64)))])) _
      refine XS.lstore X0.here hx rfl (hb hby at_13) rfl (l' := #[.val (.long q0), .second, .val (.long q1), .second, .val (.int p2), .val (.long (q1 &&& (4611686018427387903 : Int64))), .second, .val (.long ((q1 &&& (4611686018427387903 : Int64)) / (10 : Int64))), .second, .unset, .unset, .unset, .unset, .unset, .unset]) rfl ?_
      show Steps p.tables e below (s₁.setTop (mkF m 15 #[.val (.long q0), .second, .val (.long q1), .second, .val (.int p2), .val (.long (q1 &&& (4611686018427387903 : Int64))), .second, .val (.long ((q1 &&& (4611686018427387903 : Int64)) / (10 : Int64))), .second, .unset, .unset, .unset, .unset, .unset, .unset] [])) _
      refine XS.lload X0.here hx rfl (hb hby at_15) rfl ?_
      show Steps p.tables e below (s₁.setTop (mkF m 17 #[.val (.long q0), .second, .val (.long q1), .second, .val (.int p2), .val (.long (q1 &&& (4611686018427387903 : Int64))), .second, .val (.long ((q1 &&& (4611686018427387903 : Int64)) / (10 : Int64))), .second, .unset, .unset, .unset, .unset, .unset, .unset] [(.long (q1 &&& (4611686018427387903 : Int64)))])) _
      refine X0.ldc2J hx hown (mvT hZ (hw _ (List.mem_of_getElem? (i := 1) rfl))) (g := (mkF m 17 #[.val (.long q0), .second, .val (.long q1), .second, .val (.int p2), .val (.long (q1 &&& (4611686018427387903 : Int64))), .second, .val (.long ((q1 &&& (4611686018427387903 : Int64)) / (10 : Int64))), .second, .unset, .unset, .unset, .unset, .unset, .unset] [(.long (q1 &&& (4611686018427387903 : Int64)))])) rfl (hb hby at_17) ?_
      show Steps p.tables e below (s₁.setTop (mkF m 20 #[.val (.long q0), .second, .val (.long q1), .second, .val (.int p2), .val (.long (q1 &&& (4611686018427387903 : Int64))), .second, .val (.long ((q1 &&& (4611686018427387903 : Int64)) / (10 : Int64))), .second, .unset, .unset, .unset, .unset, .unset, .unset] [(.long (10 : Int64)), (.long (q1 &&& (4611686018427387903 : Int64)))])) _
      refine XS.lrem X0.here hx rfl (hb hby at_20) rfl (by decide) ?_
      show Steps p.tables e below (s₁.setTop (mkF m 21 #[.val (.long q0), .second, .val (.long q1), .second, .val (.int p2), .val (.long (q1 &&& (4611686018427387903 : Int64))), .second, .val (.long ((q1 &&& (4611686018427387903 : Int64)) / (10 : Int64))), .second, .unset, .unset, .unset, .unset, .unset, .unset] [(.long ((q1 &&& (4611686018427387903 : Int64)) - ((q1 &&& (4611686018427387903 : Int64)) / (10 : Int64)) * (10 : Int64)))])) _
      refine XS.lstore X0.here hx rfl (hb hby at_21) rfl (l' := #[.val (.long q0), .second, .val (.long q1), .second, .val (.int p2), .val (.long (q1 &&& (4611686018427387903 : Int64))), .second, .val (.long ((q1 &&& (4611686018427387903 : Int64)) / (10 : Int64))), .second, .val (.long ((q1 &&& (4611686018427387903 : Int64)) - ((q1 &&& (4611686018427387903 : Int64)) / (10 : Int64)) * (10 : Int64))), .second, .unset, .unset, .unset, .unset]) rfl ?_
      show Steps p.tables e below (s₁.setTop (mkF m 23 #[.val (.long q0), .second, .val (.long q1), .second, .val (.int p2), .val (.long (q1 &&& (4611686018427387903 : Int64))), .second, .val (.long ((q1 &&& (4611686018427387903 : Int64)) / (10 : Int64))), .second, .val (.long ((q1 &&& (4611686018427387903 : Int64)) - ((q1 &&& (4611686018427387903 : Int64)) / (10 : Int64)) * (10 : Int64))), .second, .unset, .unset, .unset, .unset] [])) _
      refine XS.iload X0.here hx rfl (hb hby at_23) rfl ?_
      show Steps p.tables e below (s₁.setTop (mkF m 25 #[.val (.long q0), .second, .val (.long q1), .second, .val (.int p2), .val (.long (q1 &&& (4611686018427387903 : Int64))), .second, .val (.long ((q1 &&& (4611686018427387903 : Int64)) / (10 : Int64))), .second, .val (.long ((q1 &&& (4611686018427387903 : Int64)) - ((q1 &&& (4611686018427387903 : Int64)) / (10 : Int64)) * (10 : Int64))), .second, .unset, .unset, .unset, .unset] [(.int p2)])) _
      refine XS.iconst X0.here hx rfl (hb hby at_25) ?_
      show Steps p.tables e below (s₁.setTop (mkF m 26 #[.val (.long q0), .second, .val (.long q1), .second, .val (.int p2), .val (.long (q1 &&& (4611686018427387903 : Int64))), .second, .val (.long ((q1 &&& (4611686018427387903 : Int64)) / (10 : Int64))), .second, .val (.long ((q1 &&& (4611686018427387903 : Int64)) - ((q1 &&& (4611686018427387903 : Int64)) / (10 : Int64)) * (10 : Int64))), .second, .unset, .unset, .unset, .unset] [(.int (1 : Int32)), (.int p2)])) _
      refine XS.iand X0.here hx rfl (hb hby at_26) rfl ?_
      exact kt)
  by_cases hc27 : (p2 &&& (1 : Int32)) = (0 : Int32)
  · have pre2 : ∀ t, Steps p.tables e below (s₁.setTop (mkF m 62 #[.val (.long q0), .second, .val (.long q1), .second, .val (.int p2), .val (.long (q1 &&& (4611686018427387903 : Int64))), .second, .val (.long ((q1 &&& (4611686018427387903 : Int64)) / (10 : Int64))), .second, .val (.long ((q1 &&& (4611686018427387903 : Int64)) - ((q1 &&& (4611686018427387903 : Int64)) / (10 : Int64)) * (10 : Int64))), .second, .val (.long (q0 &&& (576460752303423487 : Int64))), .second, .unset, .unset] [])) t → Steps p.tables e below (s₁.setTop (entryFrame m #[(.long q0), (.long q1), (.int p2)] maxLocals)) t := fun t kt => pre1 t (by
        show Steps p.tables e below (s₁.setTop (mkF m 27 #[.val (.long q0), .second, .val (.long q1), .second, .val (.int p2), .val (.long (q1 &&& (4611686018427387903 : Int64))), .second, .val (.long ((q1 &&& (4611686018427387903 : Int64)) / (10 : Int64))), .second, .val (.long ((q1 &&& (4611686018427387903 : Int64)) - ((q1 &&& (4611686018427387903 : Int64)) / (10 : Int64)) * (10 : Int64))), .second, .unset, .unset, .unset, .unset] [(.int (p2 &&& (1 : Int32)))])) _
        refine XS.ifNo X0.here hx rfl (hb hby at_27) rfl ((if0 _ _).trans (teq (show (p2 &&& (1 : Int32)) = (0 : Int32) from hc27)).2) ?_
        show Steps p.tables e below (s₁.setTop (mkF m 30 #[.val (.long q0), .second, .val (.long q1), .second, .val (.int p2), .val (.long (q1 &&& (4611686018427387903 : Int64))), .second, .val (.long ((q1 &&& (4611686018427387903 : Int64)) / (10 : Int64))), .second, .val (.long ((q1 &&& (4611686018427387903 : Int64)) - ((q1 &&& (4611686018427387903 : Int64)) / (10 : Int64)) * (10 : Int64))), .second, .unset, .unset, .unset, .unset] [])) _
        refine XS.lloadN X0.here hx rfl (hb hby at_30) rfl ?_
        show Steps p.tables e below (s₁.setTop (mkF m 31 #[.val (.long q0), .second, .val (.long q1), .second, .val (.int p2), .val (.long (q1 &&& (4611686018427387903 : Int64))), .second, .val (.long ((q1 &&& (4611686018427387903 : Int64)) / (10 : Int64))), .second, .val (.long ((q1 &&& (4611686018427387903 : Int64)) - ((q1 &&& (4611686018427387903 : Int64)) / (10 : Int64)) * (10 : Int64))), .second, .unset, .unset, .unset, .unset] [(.long q0)])) _
        refine X0.ldc2J hx hown (mvT hZ (hw _ (List.mem_of_getElem? (i := 2) rfl))) (g := (mkF m 31 #[.val (.long q0), .second, .val (.long q1), .second, .val (.int p2), .val (.long (q1 &&& (4611686018427387903 : Int64))), .second, .val (.long ((q1 &&& (4611686018427387903 : Int64)) / (10 : Int64))), .second, .val (.long ((q1 &&& (4611686018427387903 : Int64)) - ((q1 &&& (4611686018427387903 : Int64)) / (10 : Int64)) * (10 : Int64))), .second, .unset, .unset, .unset, .unset] [(.long q0)])) rfl (hb hby at_31) ?_
        show Steps p.tables e below (s₁.setTop (mkF m 34 #[.val (.long q0), .second, .val (.long q1), .second, .val (.int p2), .val (.long (q1 &&& (4611686018427387903 : Int64))), .second, .val (.long ((q1 &&& (4611686018427387903 : Int64)) / (10 : Int64))), .second, .val (.long ((q1 &&& (4611686018427387903 : Int64)) - ((q1 &&& (4611686018427387903 : Int64)) / (10 : Int64)) * (10 : Int64))), .second, .unset, .unset, .unset, .unset] [(.long (576460752303423487 : Int64)), (.long q0)])) _
        refine XS.land X0.here hx rfl (hb hby at_34) rfl ?_
        show Steps p.tables e below (s₁.setTop (mkF m 35 #[.val (.long q0), .second, .val (.long q1), .second, .val (.int p2), .val (.long (q1 &&& (4611686018427387903 : Int64))), .second, .val (.long ((q1 &&& (4611686018427387903 : Int64)) / (10 : Int64))), .second, .val (.long ((q1 &&& (4611686018427387903 : Int64)) - ((q1 &&& (4611686018427387903 : Int64)) / (10 : Int64)) * (10 : Int64))), .second, .unset, .unset, .unset, .unset] [(.long (q0 &&& (576460752303423487 : Int64)))])) _
        refine XS.lstore X0.here hx rfl (hb hby at_35) rfl (l' := #[.val (.long q0), .second, .val (.long q1), .second, .val (.int p2), .val (.long (q1 &&& (4611686018427387903 : Int64))), .second, .val (.long ((q1 &&& (4611686018427387903 : Int64)) / (10 : Int64))), .second, .val (.long ((q1 &&& (4611686018427387903 : Int64)) - ((q1 &&& (4611686018427387903 : Int64)) / (10 : Int64)) * (10 : Int64))), .second, .val (.long (q0 &&& (576460752303423487 : Int64))), .second, .unset, .unset]) rfl ?_
        show Steps p.tables e below (s₁.setTop (mkF m 37 #[.val (.long q0), .second, .val (.long q1), .second, .val (.int p2), .val (.long (q1 &&& (4611686018427387903 : Int64))), .second, .val (.long ((q1 &&& (4611686018427387903 : Int64)) / (10 : Int64))), .second, .val (.long ((q1 &&& (4611686018427387903 : Int64)) - ((q1 &&& (4611686018427387903 : Int64)) / (10 : Int64)) * (10 : Int64))), .second, .val (.long (q0 &&& (576460752303423487 : Int64))), .second, .unset, .unset] [])) _
        refine XS.goto X0.here hx rfl (pc0 := 37) (pc' := 62) rfl (hb hby at_37) (by decide) (by decide) ?_
        exact kt)
    obtain ⟨gb, hgb⟩ : ∃ z : Int64, z = (q0 &&& (576460752303423487 : Int64)) := ⟨_, rfl⟩
    rw [← hgb] at pre2
    obtain ⟨ex, hex, pre6⟩ : ∃ ex : Int32, ex = (expV gb ((q1 &&& (4611686018427387903 : Int64)) / (10 : Int64)) ((q1 &&& (4611686018427387903 : Int64)) - ((q1 &&& (4611686018427387903 : Int64)) / (10 : Int64)) * (10 : Int64))) ∧ ∀ t, Steps p.tables e below (s₁.setTop (mkF m 90 #[.val (.long q0), .second, .val (.long q1), .second, .val (.int p2), .val (.long (q1 &&& (4611686018427387903 : Int64))), .second, .val (.long ((q1 &&& (4611686018427387903 : Int64)) / (10 : Int64))), .second, .val (.long ((q1 &&& (4611686018427387903 : Int64)) - ((q1 &&& (4611686018427387903 : Int64)) / (10 : Int64)) * (10 : Int64))), .second, .val (.long gb), .second, .unset, .unset] [(.int ex)])) t → Steps p.tables e below (s₁.setTop (entryFrame m #[(.long q0), (.long q1), (.int p2)] maxLocals)) t := by
      have pre3 : ∀ t, Steps p.tables e below (s₁.setTop (mkF m 67 #[.val (.long q0), .second, .val (.long q1), .second, .val (.int p2), .val (.long (q1 &&& (4611686018427387903 : Int64))), .second, .val (.long ((q1 &&& (4611686018427387903 : Int64)) / (10 : Int64))), .second, .val (.long ((q1 &&& (4611686018427387903 : Int64)) - ((q1 &&& (4611686018427387903 : Int64)) / (10 : Int64)) * (10 : Int64))), .second, .val (.long gb), .second, .unset, .unset] [(.int (lcmpW gb ((q1 &&& (4611686018427387903 : Int64)) / (10 : Int64))))])) t → Steps p.tables e below (s₁.setTop (entryFrame m #[(.long q0), (.long q1), (.int p2)] maxLocals)) t := fun t kt => pre2 t (by
          show Steps p.tables e below (s₁.setTop (mkF m 62 #[.val (.long q0), .second, .val (.long q1), .second, .val (.int p2), .val (.long (q1 &&& (4611686018427387903 : Int64))), .second, .val (.long ((q1 &&& (4611686018427387903 : Int64)) / (10 : Int64))), .second, .val (.long ((q1 &&& (4611686018427387903 : Int64)) - ((q1 &&& (4611686018427387903 : Int64)) / (10 : Int64)) * (10 : Int64))), .second, .val (.long gb), .second, .unset, .unset] [])) _
          refine XS.lload X0.here hx rfl (hb hby at_62) rfl ?_
          show Steps p.tables e below (s₁.setTop (mkF m 64 #[.val (.long q0), .second, .val (.long q1), .second, .val (.int p2), .val (.long (q1 &&& (4611686018427387903 : Int64))), .second, .val (.long ((q1 &&& (4611686018427387903 : Int64)) / (10 : Int64))), .second, .val (.long ((q1 &&& (4611686018427387903 : Int64)) - ((q1 &&& (4611686018427387903 : Int64)) / (10 : Int64)) * (10 : Int64))), .second, .val (.long gb), .second, .unset, .unset] [(.long gb)])) _
          refine XS.lload X0.here hx rfl (hb hby at_64) rfl ?_
          show Steps p.tables e below (s₁.setTop (mkF m 66 #[.val (.long q0), .second, .val (.long q1), .second, .val (.int p2), .val (.long (q1 &&& (4611686018427387903 : Int64))), .second, .val (.long ((q1 &&& (4611686018427387903 : Int64)) / (10 : Int64))), .second, .val (.long ((q1 &&& (4611686018427387903 : Int64)) - ((q1 &&& (4611686018427387903 : Int64)) / (10 : Int64)) * (10 : Int64))), .second, .val (.long gb), .second, .unset, .unset] [(.long ((q1 &&& (4611686018427387903 : Int64)) / (10 : Int64))), (.long gb)])) _
          refine XS.lcmp X0.here hx rfl (hb hby at_66) rfl ?_
          exact kt)
      by_cases hc67 : ((q1 &&& (4611686018427387903 : Int64)) / (10 : Int64)) < gb
      · exact ⟨(1 : Int32), (by rw [expV, if_pos hc67]), fun t kt => pre3 t (by
            show Steps p.tables e below (s₁.setTop (mkF m 67 #[.val (.long q0), .second, .val (.long q1), .second, .val (.int p2), .val (.long (q1 &&& (4611686018427387903 : Int64))), .second, .val (.long ((q1 &&& (4611686018427387903 : Int64)) / (10 : Int64))), .second, .val (.long ((q1 &&& (4611686018427387903 : Int64)) - ((q1 &&& (4611686018427387903 : Int64)) / (10 : Int64)) * (10 : Int64))), .second, .val (.long gb), .second, .unset, .unset] [(.int (lcmpW gb ((q1 &&& (4611686018427387903 : Int64)) / (10 : Int64))))])) _
            refine XS.ifYes X0.here hx rfl (pc0 := 67) (pc' := 85) rfl (hb hby at_67) rfl ((if0 _ _).trans (tlt (show (0 : Int32) < (lcmpW gb ((q1 &&& (4611686018427387903 : Int64)) / (10 : Int64))) from ((lw_gt _ _).mpr hc67))).2.2.1) (by decide) (by decide) ?_
            show Steps p.tables e below (s₁.setTop (mkF m 85 #[.val (.long q0), .second, .val (.long q1), .second, .val (.int p2), .val (.long (q1 &&& (4611686018427387903 : Int64))), .second, .val (.long ((q1 &&& (4611686018427387903 : Int64)) / (10 : Int64))), .second, .val (.long ((q1 &&& (4611686018427387903 : Int64)) - ((q1 &&& (4611686018427387903 : Int64)) / (10 : Int64)) * (10 : Int64))), .second, .val (.long gb), .second, .unset, .unset] [])) _
            refine XS.iconst X0.here hx rfl (hb hby at_85) ?_
            show Steps p.tables e below (s₁.setTop (mkF m 86 #[.val (.long q0), .second, .val (.long q1), .second, .val (.int p2), .val (.long (q1 &&& (4611686018427387903 : Int64))), .second, .val (.long ((q1 &&& (4611686018427387903 : Int64)) / (10 : Int64))), .second, .val (.long ((q1 &&& (4611686018427387903 : Int64)) - ((q1 &&& (4611686018427387903 : Int64)) / (10 : Int64)) * (10 : Int64))), .second, .val (.long gb), .second, .unset, .unset] [(.int (1 : Int32))])) _
            refine XS.goto X0.here hx rfl (pc0 := 86) (pc' := 90) rfl (hb hby at_86) (by decide) (by decide) ?_
            exact kt)⟩
      · have pre4 : ∀ t, Steps p.tables e below (s₁.setTop (mkF m 75 #[.val (.long q0), .second, .val (.long q1), .second, .val (.int p2), .val (.long (q1 &&& (4611686018427387903 : Int64))), .second, .val (.long ((q1 &&& (4611686018427387903 : Int64)) / (10 : Int64))), .second, .val (.long ((q1 &&& (4611686018427387903 : Int64)) - ((q1 &&& (4611686018427387903 : Int64)) / (10 : Int64)) * (10 : Int64))), .second, .val (.long gb), .second, .unset, .unset] [(.int (lcmpW gb ((q1 &&& (4611686018427387903 : Int64)) / (10 : Int64))))])) t → Steps p.tables e below (s₁.setTop (entryFrame m #[(.long q0), (.long q1), (.int p2)] maxLocals)) t := fun t kt => pre3 t (by
            show Steps p.tables e below (s₁.setTop (mkF m 67 #[.val (.long q0), .second, .val (.long q1), .second, .val (.int p2), .val (.long (q1 &&& (4611686018427387903 : Int64))), .second, .val (.long ((q1 &&& (4611686018427387903 : Int64)) / (10 : Int64))), .second, .val (.long ((q1 &&& (4611686018427387903 : Int64)) - ((q1 &&& (4611686018427387903 : Int64)) / (10 : Int64)) * (10 : Int64))), .second, .val (.long gb), .second, .unset, .unset] [(.int (lcmpW gb ((q1 &&& (4611686018427387903 : Int64)) / (10 : Int64))))])) _
            refine XS.ifNo X0.here hx rfl (hb hby at_67) rfl ((if0 _ _).trans (flt (show ¬ ((0 : Int32) < (lcmpW gb ((q1 &&& (4611686018427387903 : Int64)) / (10 : Int64)))) from (fun q => hc67 ((lw_gt _ _).mp q)))).2.2.1) ?_
            show Steps p.tables e below (s₁.setTop (mkF m 70 #[.val (.long q0), .second, .val (.long q1), .second, .val (.int p2), .val (.long (q1 &&& (4611686018427387903 : Int64))), .second, .val (.long ((q1 &&& (4611686018427387903 : Int64)) / (10 : Int64))), .second, .val (.long ((q1 &&& (4611686018427387903 : Int64)) - ((q1 &&& (4611686018427387903 : Int64)) / (10 : Int64)) * (10 : Int64))), .second, .val (.long gb), .second, .unset, .unset] [])) _
            refine XS.lload X0.here hx rfl (hb hby at_70) rfl ?_
            show Steps p.tables e below (s₁.setTop (mkF m 72 #[.val (.long q0), .second, .val (.long q1), .second, .val (.int p2), .val (.long (q1 &&& (4611686018427387903 : Int64))), .second, .val (.long ((q1 &&& (4611686018427387903 : Int64)) / (10 : Int64))), .second, .val (.long ((q1 &&& (4611686018427387903 : Int64)) - ((q1 &&& (4611686018427387903 : Int64)) / (10 : Int64)) * (10 : Int64))), .second, .val (.long gb), .second, .unset, .unset] [(.long gb)])) _
            refine XS.lload X0.here hx rfl (hb hby at_72) rfl ?_
            show Steps p.tables e below (s₁.setTop (mkF m 74 #[.val (.long q0), .second, .val (.long q1), .second, .val (.int p2), .val (.long (q1 &&& (4611686018427387903 : Int64))), .second, .val (.long ((q1 &&& (4611686018427387903 : Int64)) / (10 : Int64))), .second, .val (.long ((q1 &&& (4611686018427387903 : Int64)) - ((q1 &&& (4611686018427387903 : Int64)) / (10 : Int64)) * (10 : Int64))), .second, .val (.long gb), .second, .unset, .unset] [(.long ((q1 &&& (4611686018427387903 : Int64)) / (10 : Int64))), (.long gb)])) _
            refine XS.lcmp X0.here hx rfl (hb hby at_74) rfl ?_
            exact kt)
        by_cases hc75 : gb = ((q1 &&& (4611686018427387903 : Int64)) / (10 : Int64))
        · have pre5 : ∀ t, Steps p.tables e below (s₁.setTop (mkF m 82 #[.val (.long q0), .second, .val (.long q1), .second, .val (.int p2), .val (.long (q1 &&& (4611686018427387903 : Int64))), .second, .val (.long ((q1 &&& (4611686018427387903 : Int64)) / (10 : Int64))), .second, .val (.long ((q1 &&& (4611686018427387903 : Int64)) - ((q1 &&& (4611686018427387903 : Int64)) / (10 : Int64)) * (10 : Int64))), .second, .val (.long gb), .second, .unset, .unset] [(.int (lcmpW ((q1 &&& (4611686018427387903 : Int64)) - ((q1 &&& (4611686018427387903 : Int64)) / (10 : Int64)) * (10 : Int64)) (0 : Int64)))])) t → Steps p.tables e below (s₁.setTop (entryFrame m #[(.long q0), (.long q1), (.int p2)] maxLocals)) t := fun t kt => pre4 t (by
              show Steps p.tables e below (s₁.setTop (mkF m 75 #[.val (.long q0), .second, .val (.long q1), .second, .val (.int p2), .val (.long (q1 &&& (4611686018427387903 : Int64))), .second, .val (.long ((q1 &&& (4611686018427387903 : Int64)) / (10 : Int64))), .second, .val (.long ((q1 &&& (4611686018427387903 : Int64)) - ((q1 &&& (4611686018427387903 : Int64)) / (10 : Int64)) * (10 : Int64))), .second, .val (.long gb), .second, .unset, .unset] [(.int (lcmpW gb ((q1 &&& (4611686018427387903 : Int64)) / (10 : Int64))))])) _
              refine XS.ifNo X0.here hx rfl (hb hby at_75) rfl ((if0 _ _).trans (teq (show (lcmpW gb ((q1 &&& (4611686018427387903 : Int64)) / (10 : Int64))) = (0 : Int32) from ((lw_eq _ _).mpr hc75))).2) ?_
              show Steps p.tables e below (s₁.setTop (mkF m 78 #[.val (.long q0), .second, .val (.long q1), .second, .val (.int p2), .val (.long (q1 &&& (4611686018427387903 : Int64))), .second, .val (.long ((q1 &&& (4611686018427387903 : Int64)) / (10 : Int64))), .second, .val (.long ((q1 &&& (4611686018427387903 : Int64)) - ((q1 &&& (4611686018427387903 : Int64)) / (10 : Int64)) * (10 : Int64))), .second, .val (.long gb), .second, .unset, .unset] [])) _
              refine XS.lload X0.here hx rfl (hb hby at_78) rfl ?_
              show Steps p.tables e below (s₁.setTop (mkF m 80 #[.val (.long q0), .second, .val (.long q1), .second, .val (.int p2), .val (.long (q1 &&& (4611686018427387903 : Int64))), .second, .val (.long ((q1 &&& (4611686018427387903 : Int64)) / (10 : Int64))), .second, .val (.long ((q1 &&& (4611686018427387903 : Int64)) - ((q1 &&& (4611686018427387903 : Int64)) / (10 : Int64)) * (10 : Int64))), .second, .val (.long gb), .second, .unset, .unset] [(.long ((q1 &&& (4611686018427387903 : Int64)) - ((q1 &&& (4611686018427387903 : Int64)) / (10 : Int64)) * (10 : Int64)))])) _
              refine XS.lconst X0.here hx rfl (hb hby at_80) ?_
              show Steps p.tables e below (s₁.setTop (mkF m 81 #[.val (.long q0), .second, .val (.long q1), .second, .val (.int p2), .val (.long (q1 &&& (4611686018427387903 : Int64))), .second, .val (.long ((q1 &&& (4611686018427387903 : Int64)) / (10 : Int64))), .second, .val (.long ((q1 &&& (4611686018427387903 : Int64)) - ((q1 &&& (4611686018427387903 : Int64)) / (10 : Int64)) * (10 : Int64))), .second, .val (.long gb), .second, .unset, .unset] [(.long (0 : Int64)), (.long ((q1 &&& (4611686018427387903 : Int64)) - ((q1 &&& (4611686018427387903 : Int64)) / (10 : Int64)) * (10 : Int64)))])) _
              refine XS.lcmp X0.here hx rfl (hb hby at_81) rfl ?_
              exact kt)
          by_cases hc82 : ((q1 &&& (4611686018427387903 : Int64)) - ((q1 &&& (4611686018427387903 : Int64)) / (10 : Int64)) * (10 : Int64)) = (0 : Int64)
          · exact ⟨(1 : Int32), (by rw [expV, if_neg hc67, if_pos hc75, if_pos hc82]), fun t kt => pre5 t (by
                show Steps p.tables e below (s₁.setTop (mkF m 82 #[.val (.long q0), .second, .val (.long q1), .second, .val (.int p2), .val (.long (q1 &&& (4611686018427387903 : Int64))), .second, .val (.long ((q1 &&& (4611686018427387903 : Int64)) / (10 : Int64))), .second, .val (.long ((q1 &&& (4611686018427387903 : Int64)) - ((q1 &&& (4611686018427387903 : Int64)) / (10 : Int64)) * (10 : Int64))), .second, .val (.long gb), .second, .unset, .unset] [(.int (lcmpW ((q1 &&& (4611686018427387903 : Int64)) - ((q1 &&& (4611686018427387903 : Int64)) / (10 : Int64)) * (10 : Int64)) (0 : Int64)))])) _
                refine XS.ifNo X0.here hx rfl (hb hby at_82) rfl ((if0 _ _).trans (teq (show (lcmpW ((q1 &&& (4611686018427387903 : Int64)) - ((q1 &&& (4611686018427387903 : Int64)) / (10 : Int64)) * (10 : Int64)) (0 : Int64)) = (0 : Int32) from ((lw_eq _ _).mpr hc82))).2) ?_
                show Steps p.tables e below (s₁.setTop (mkF m 85 #[.val (.long q0), .second, .val (.long q1), .second, .val (.int p2), .val (.long (q1 &&& (4611686018427387903 : Int64))), .second, .val (.long ((q1 &&& (4611686018427387903 : Int64)) / (10 : Int64))), .second, .val (.long ((q1 &&& (4611686018427387903 : Int64)) - ((q1 &&& (4611686018427387903 : Int64)) / (10 : Int64)) * (10 : Int64))), .second, .val (.long gb), .second, .unset, .unset] [])) _
                refine XS.iconst X0.here hx rfl (hb hby at_85) ?_
                show Steps p.tables e below (s₁.setTop (mkF m 86 #[.val (.long q0), .second, .val (.long q1), .second, .val (.int p2), .val (.long (q1 &&& (4611686018427387903 : Int64))), .second, .val (.long ((q1 &&& (4611686018427387903 : Int64)) / (10 : Int64))), .second, .val (.long ((q1 &&& (4611686018427387903 : Int64)) - ((q1 &&& (4611686018427387903 : Int64)) / (10 : Int64)) * (10 : Int64))), .second, .val (.long gb), .second, .unset, .unset] [(.int (1 : Int32))])) _
                refine XS.goto X0.here hx rfl (pc0 := 86) (pc' := 90) rfl (hb hby at_86) (by decide) (by decide) ?_
                exact kt)⟩
          · exact ⟨(0 : Int32), (by rw [expV, if_neg hc67, if_pos hc75, if_neg hc82]), fun t kt => pre5 t (by
                show Steps p.tables e below (s₁.setTop (mkF m 82 #[.val (.long q0), .second, .val (.long q1), .second, .val (.int p2), .val (.long (q1 &&& (4611686018427387903 : Int64))), .second, .val (.long ((q1 &&& (4611686018427387903 : Int64)) / (10 : Int64))), .second, .val (.long ((q1 &&& (4611686018427387903 : Int64)) - ((q1 &&& (4611686018427387903 : Int64)) / (10 : Int64)) * (10 : Int64))), .second, .val (.long gb), .second, .unset, .unset] [(.int (lcmpW ((q1 &&& (4611686018427387903 : Int64)) - ((q1 &&& (4611686018427387903 : Int64)) / (10 : Int64)) * (10 : Int64)) (0 : Int64)))])) _
                refine XS.ifYes X0.here hx rfl (pc0 := 82) (pc' := 89) rfl (hb hby at_82) rfl ((if0 _ _).trans (feq (show ¬ ((lcmpW ((q1 &&& (4611686018427387903 : Int64)) - ((q1 &&& (4611686018427387903 : Int64)) / (10 : Int64)) * (10 : Int64)) (0 : Int64)) = (0 : Int32)) from (fun q => hc82 ((lw_eq _ _).mp q)))).2) (by decide) (by decide) ?_
                show Steps p.tables e below (s₁.setTop (mkF m 89 #[.val (.long q0), .second, .val (.long q1), .second, .val (.int p2), .val (.long (q1 &&& (4611686018427387903 : Int64))), .second, .val (.long ((q1 &&& (4611686018427387903 : Int64)) / (10 : Int64))), .second, .val (.long ((q1 &&& (4611686018427387903 : Int64)) - ((q1 &&& (4611686018427387903 : Int64)) / (10 : Int64)) * (10 : Int64))), .second, .val (.long gb), .second, .unset, .unset] [])) _
                refine XS.iconst X0.here hx rfl (hb hby at_89) ?_
                exact kt)⟩
        · exact ⟨(0 : Int32), (by rw [expV, if_neg hc67, if_neg hc75]), fun t kt => pre4 t (by
              show Steps p.tables e below (s₁.setTop (mkF m 75 #[.val (.long q0), .second, .val (.long q1), .second, .val (.int p2), .val (.long (q1 &&& (4611686018427387903 : Int64))), .second, .val (.long ((q1 &&& (4611686018427387903 : Int64)) / (10 : Int64))), .second, .val (.long ((q1 &&& (4611686018427387903 : Int64)) - ((q1 &&& (4611686018427387903 : Int64)) / (10 : Int64)) * (10 : Int64))), .second, .val (.long gb), .second, .unset, .unset] [(.int (lcmpW gb ((q1 &&& (4611686018427387903 : Int64)) / (10 : Int64))))])) _
              refine XS.ifYes X0.here hx rfl (pc0 := 75) (pc' := 89) rfl (hb hby at_75) rfl ((if0 _ _).trans (feq (show ¬ ((lcmpW gb ((q1 &&& (4611686018427387903 : Int64)) / (10 : Int64))) = (0 : Int32)) from (fun q => hc75 ((lw_eq _ _).mp q)))).2) (by decide) (by decide) ?_
              show Steps p.tables e below (s₁.setTop (mkF m 89 #[.val (.long q0), .second, .val (.long q1), .second, .val (.int p2), .val (.long (q1 &&& (4611686018427387903 : Int64))), .second, .val (.long ((q1 &&& (4611686018427387903 : Int64)) / (10 : Int64))), .second, .val (.long ((q1 &&& (4611686018427387903 : Int64)) - ((q1 &&& (4611686018427387903 : Int64)) / (10 : Int64)) * (10 : Int64))), .second, .val (.long gb), .second, .unset, .unset] [])) _
              refine XS.iconst X0.here hx rfl (hb hby at_89) ?_
              exact kt)⟩
    obtain ⟨T7, h7, X7, e7, E7, A7, D7, -, st7⟩ := newO X0 hx hZ hown (hw _ (List.mem_of_getElem? (i := 3) rfl)) (hw _ (List.mem_of_getElem? (i := 4) rfl)) (hw _ (List.mem_of_getElem? (i := 5) rfl)) e0 (g := (mkF m 92 #[.val (.long q0), .second, .val (.long q1), .second, .val (.int p2), .val (.long (q1 &&& (4611686018427387903 : Int64))), .second, .val (.long ((q1 &&& (4611686018427387903 : Int64)) / (10 : Int64))), .second, .val (.long ((q1 &&& (4611686018427387903 : Int64)) - ((q1 &&& (4611686018427387903 : Int64)) / (10 : Int64)) * (10 : Int64))), .second, .val (.long gb), .second, .val (.int ex), .unset] [])) rfl (hb hby at_92) (by decide) (by decide)
    obtain ⟨b7, g7⟩ : ∃ z, z = h0.size := ⟨_, rfl⟩
    rw [← g7] at A7 D7 st7
    have g_b7 : n0 ≤ b7 := Nat.le_trans Z0 (Nat.le_of_eq g7.symm)
    have sz_b7 : h0.size ≤ b7 := Nat.le_trans (Keep.refl h0 []).1 (Nat.le_of_eq g7.symm)
    have K7 : Keep h0 h7 [] := Keep.ext (Keep.refl h0 []) E7
    have Z7 : n0 ≤ h7.size := Nat.le_trans Z0 K7.1
    have F_garbage_b7 : Fld Z h7 b7 "com/example/heartwood/heartwood/store/GarbageEstimate" "garbage" "J" (.long (0 : Int64)) := D7 (Or.inr (hw _ (List.mem_of_getElem? (i := 18) rfl))) (ty := .long) (by decide)
    have F_size_b7 : Fld Z h7 b7 "com/example/heartwood/heartwood/store/GarbageEstimate" "size" "J" (.long (0 : Int64)) := D7 (Or.inr (hw _ (List.mem_of_getElem? (i := 20) rfl))) (ty := .long) (by decide)
    obtain ⟨_, _, ⟨T8, L8, k8, n8⟩, -, X8, ⟨Lc8, hQ8, l8, y8, z8⟩, st8⟩ := X7.specialBack hx (y := (⟨"com/example/heartwood/heartwood/store/GarbageEstimate", "<init>", "(JJ)V"⟩ : MethodName)) rfl hown (mvT hZ (hw _ (List.mem_of_getElem? (i := 6) rfl))) (mvT hZ (hw _ (List.mem_of_getElem? (i := 7) rfl))) (mvT hZ (hw _ (List.mem_of_getElem? (i := 8) rfl))) (by decide) (backOf (W := 1) (rm1 l Z a0 hw [] b7 gb (q1 &&& (4611686018427387903 : Int64)) h7 n0 Z7 A7 F_garbage_b7 F_size_b7 g_b7) hZ (hw _ (List.mem_of_getElem? (i := 8) rfl)) (hw _ (List.mem_of_getElem? (i := 5) rfl)) (by decide) (by decide)) (g := (mkF m 100 #[.val (.long q0), .second, .val (.long q1), .second, .val (.int p2), .val (.long (q1 &&& (4611686018427387903 : Int64))), .second, .val (.long ((q1 &&& (4611686018427387903 : Int64)) / (10 : Int64))), .second, .val (.long ((q1 &&& (4611686018427387903 : Int64)) - ((q1 &&& (4611686018427387903 : Int64)) / (10 : Int64)) * (10 : Int64))), .second, .val (.long gb), .second, .val (.int ex), .unset] [(.long (q1 &&& (4611686018427387903 : Int64))), (.long gb), (.ref b7), (.ref b7)])) rfl (by rw [hml]; rfl) (Steps.refl _) (a := b7) (argsL := [(.long gb), (.long (q1 &&& (4611686018427387903 : Int64)))]) (rest := [(.ref b7)]) (lenOf pd_1 rfl) rfl (by show 2 * 0 + _ ≤ _; exact Nat.le_of_eq rfl) (hb hby at_100) (fun _ _ => ⟨rfl, e7, (by decide : 1 + 0 ≤ _), (by decide : 2 + 0 ≤ _)⟩)
    dsimp only [Pt.U, Pt.locs, Pt.cells, Pt.slots] at X8 l8 y8 z8 st8 hQ8
    subst l8 y8 z8
    obtain ⟨rfl, N8q, K8, E8o, F8_0, F8_1⟩ := hQ8
    have KK8 : Keep h0 T8.heap [] := Keep.trans K7 K8 (own_side1 (Or.inr sz_b7))
    have Z8 : n0 ≤ T8.heap.size := Nat.le_trans Z0 KK8.1
    have N8 := Fr.app N0 N8q
    obtain ⟨cq9, kq9, q9a, q9b, q9c⟩ := isOf hZ rfl E8o
    obtain ⟨_, _, ⟨T9, L9, k9, n9⟩, -, X9, ⟨Lc9, hQ9, l9, y9, z9⟩, st9⟩ := X8.virtualBack hx (y := (⟨"com/example/heartwood/heartwood/store/GarbageEstimate", "worthACycle", "()Z"⟩ : MethodName)) (z := (⟨"com/example/heartwood/heartwood/store/GarbageEstimate", "worthACycle", "()Z"⟩ : MethodName)) hown (mvT hZ (hw _ (List.mem_of_getElem? (i := 21) rfl))) (mvT hZ (hw _ (List.mem_of_getElem? (i := 22) rfl))) (notFace_of_selects (args := #[]) (mvT hZ (hw _ (List.mem_of_getElem? (i := 24) rfl)))) (mvT hZ (hw _ (List.mem_of_getElem? (i := 24) rfl))) (mvT hZ (hw _ (List.mem_of_getElem? (i := 23) rfl))) (by decide) (backOf (W := 0) (rm4 l Z a0 hw [] b7 gb (q1 &&& (4611686018427387903 : Int64)) T8.heap n0 Z8 F8_0 F8_1) hZ (hw _ (List.mem_of_getElem? (i := 25) rfl)) (hw _ (List.mem_of_getElem? (i := 5) rfl)) (by decide) (by decide)) q9a q9c (g := (mkF m 107 #[.val (.long q0), .second, .val (.long q1), .second, .val (.int p2), .val (.long (q1 &&& (4611686018427387903 : Int64))), .second, .val (.long ((q1 &&& (4611686018427387903 : Int64)) / (10 : Int64))), .second, .val (.long ((q1 &&& (4611686018427387903 : Int64)) - ((q1 &&& (4611686018427387903 : Int64)) / (10 : Int64)) * (10 : Int64))), .second, .val (.long gb), .second, .val (.int ex), .val (.ref b7)] [(.ref b7)])) rfl (by rw [hml]; rfl) (Steps.refl _) (argsL := []) (rest := []) (lenOf pd_2 rfl) rfl (by show 2 * 0 + _ ≤ _; exact Nat.le_of_eq rfl) (hb hby at_107) (fun _ _ => ⟨rfl, rfl, (by decide : 1 + 0 ≤ _), (by decide : 2 + 0 ≤ _)⟩)
    dsimp only [Pt.U, Pt.locs, Pt.cells, Pt.slots] at X9 l9 y9 z9 st9 hQ9
    subst l9 y9 z9
    obtain ⟨rfl, N9q, e9⟩ := hQ9
    have N9 := Fr.app N8 N9q
    obtain ⟨fs, hr, hrun, hended, hW, hsame⟩ := X9.leave (v := some (.int (1 : Int32))) (fun h => by rw [Bd.returns] at h; cases h)
    refine ⟨_, _, pre6 _ ?_, hrun, hended, _, _, rfl, ?_, ⟨_, rfl⟩, hW, hsame.mono (by decide) (by decide)⟩
    · show Steps p.tables e below (s₁.setTop (mkF m 90 #[.val (.long q0), .second, .val (.long q1), .second, .val (.int p2), .val (.long (q1 &&& (4611686018427387903 : Int64))), .second, .val (.long ((q1 &&& (4611686018427387903 : Int64)) / (10 : Int64))), .second, .val (.long ((q1 &&& (4611686018427387903 : Int64)) - ((q1 &&& (4611686018427387903 : Int64)) / (10 : Int64)) * (10 : Int64))), .second, .val (.long gb), .second, .unset, .unset] [(.int ex)])) _
      refine XS.istore X0.here hx rfl (hb hby at_90) rfl (l' := #[.val (.long q0), .second, .val (.long q1), .second, .val (.int p2), .val (.long (q1 &&& (4611686018427387903 : Int64))), .second, .val (.long ((q1 &&& (4611686018427387903 : Int64)) / (10 : Int64))), .second, .val (.long ((q1 &&& (4611686018427387903 : Int64)) - ((q1 &&& (4611686018427387903 : Int64)) / (10 : Int64)) * (10 : Int64))), .second, .val (.long gb), .second, .val (.int ex), .unset]) rfl ?_
      show Steps p.tables e below (s₁.setTop (mkF m 92 #[.val (.long q0), .second, .val (.long q1), .second, .val (.int p2), .val (.long (q1 &&& (4611686018427387903 : Int64))), .second, .val (.long ((q1 &&& (4611686018427387903 : Int64)) / (10 : Int64))), .second, .val (.long ((q1 &&& (4611686018427387903 : Int64)) - ((q1 &&& (4611686018427387903 : Int64)) / (10 : Int64)) * (10 : Int64))), .second, .val (.long gb), .second, .val (.int ex), .unset] [])) _
      refine st7 _ ?_
      show Steps p.tables e below (T7.setTop (mkF m 95 #[.val (.long q0), .second, .val (.long q1), .second, .val (.int p2), .val (.long (q1 &&& (4611686018427387903 : Int64))), .second, .val (.long ((q1 &&& (4611686018427387903 : Int64)) / (10 : Int64))), .second, .val (.long ((q1 &&& (4611686018427387903 : Int64)) - ((q1 &&& (4611686018427387903 : Int64)) / (10 : Int64)) * (10 : Int64))), .second, .val (.long gb), .second, .val (.int ex), .unset] [(.ref b7)])) _
      refine XS.dup X7.here hx rfl (hb hby at_95) rfl rfl ?_
      show Steps p.tables e below (T7.setTop (mkF m 96 #[.val (.long q0), .second, .val (.long q1), .second, .val (.int p2), .val (.long (q1 &&& (4611686018427387903 : Int64))), .second, .val (.long ((q1 &&& (4611686018427387903 : Int64)) / (10 : Int64))), .second, .val (.long ((q1 &&& (4611686018427387903 : Int64)) - ((q1 &&& (4611686018427387903 : Int64)) / (10 : Int64)) * (10 : Int64))), .second, .val (.long gb), .second, .val (.int ex), .unset] [(.ref b7), (.ref b7)])) _
      refine XS.lload X7.here hx rfl (hb hby at_96) rfl ?_
      show Steps p.tables e below (T7.setTop (mkF m 98 #[.val (.long q0), .second, .val (.long q1), .second, .val (.int p2), .val (.long (q1 &&& (4611686018427387903 : Int64))), .second, .val (.long ((q1 &&& (4611686018427387903 : Int64)) / (10 : Int64))), .second, .val (.long ((q1 &&& (4611686018427387903 : Int64)) - ((q1 &&& (4611686018427387903 : Int64)) / (10 : Int64)) * (10 : Int64))), .second, .val (.long gb), .second, .val (.int ex), .unset] [(.long gb), (.ref b7), (.ref b7)])) _
      refine XS.lload X7.here hx rfl (hb hby at_98) rfl ?_
      show Steps p.tables e below (T7.setTop (mkF m 100 #[.val (.long q0), .second, .val (.long q1), .second, .val (.int p2), .val (.long (q1 &&& (4611686018427387903 : Int64))), .second, .val (.long ((q1 &&& (4611686018427387903 : Int64)) / (10 : Int64))), .second, .val (.long ((q1 &&& (4611686018427387903 : Int64)) - ((q1 &&& (4611686018427387903 : Int64)) / (10 : Int64)) * (10 : Int64))), .second, .val (.long gb), .second, .val (.int ex), .unset] [(.long (q1 &&& (4611686018427387903 : Int64))), (.long gb), (.ref b7), (.ref b7)])) _
      refine st8.trans ?_
      show Steps p.tables e below (T8.setTop (mkF m 103 #[.val (.long q0), .second, .val (.long q1), .second, .val (.int p2), .val (.long (q1 &&& (4611686018427387903 : Int64))), .second, .val (.long ((q1 &&& (4611686018427387903 : Int64)) / (10 : Int64))), .second, .val (.long ((q1 &&& (4611686018427387903 : Int64)) - ((q1 &&& (4611686018427387903 : Int64)) / (10 : Int64)) * (10 : Int64))), .second, .val (.long gb), .second, .val (.int ex), .unset] [(.ref b7)])) _
      refine XS.astore X8.here hx rfl (hb hby at_103) rfl rfl (l' := #[.val (.long q0), .second, .val (.long q1), .second, .val (.int p2), .val (.long (q1 &&& (4611686018427387903 : Int64))), .second, .val (.long ((q1 &&& (4611686018427387903 : Int64)) / (10 : Int64))), .second, .val (.long ((q1 &&& (4611686018427387903 : Int64)) - ((q1 &&& (4611686018427387903 : Int64)) / (10 : Int64)) * (10 : Int64))), .second, .val (.long gb), .second, .val (.int ex), .val (.ref b7)]) rfl ?_
      show Steps p.tables e below (T8.setTop (mkF m 105 #[.val (.long q0), .second, .val (.long q1), .second, .val (.int p2), .val (.long (q1 &&& (4611686018427387903 : Int64))), .second, .val (.long ((q1 &&& (4611686018427387903 : Int64)) / (10 : Int64))), .second, .val (.long ((q1 &&& (4611686018427387903 : Int64)) - ((q1 &&& (4611686018427387903 : Int64)) / (10 : Int64)) * (10 : Int64))), .second, .val (.long gb), .second, .val (.int ex), .val (.ref b7)] [])) _
      refine XS.aload X8.here hx rfl (hb hby at_105) rfl rfl ?_
      show Steps p.tables e below (T8.setTop (mkF m 107 #[.val (.long q0), .second, .val (.long q1), .second, .val (.int p2), .val (.long (q1 &&& (4611686018427387903 : Int64))), .second, .val (.long ((q1 &&& (4611686018427387903 : Int64)) / (10 : Int64))), .second, .val (.long ((q1 &&& (4611686018427387903 : Int64)) - ((q1 &&& (4611686018427387903 : Int64)) / (10 : Int64)) * (10 : Int64))), .second, .val (.long gb), .second, .val (.int ex), .val (.ref b7)] [(.ref b7)])) _
      refine st9.trans ?_
      show Steps p.tables e below (T9.setTop (mkF m 110 #[.val (.long q0), .second, .val (.long q1), .second, .val (.int p2), .val (.long (q1 &&& (4611686018427387903 : Int64))), .second, .val (.long ((q1 &&& (4611686018427387903 : Int64)) / (10 : Int64))), .second, .val (.long ((q1 &&& (4611686018427387903 : Int64)) - ((q1 &&& (4611686018427387903 : Int64)) / (10 : Int64)) * (10 : Int64))), .second, .val (.long gb), .second, .val (.int ex), .val (.ref b7)] [(.int (worthV gb (q1 &&& (4611686018427387903 : Int64))))])) _
      refine XS.iload X9.here hx rfl (hb hby at_110) rfl ?_
      show Steps p.tables e below (T9.setTop (mkF m 112 #[.val (.long q0), .second, .val (.long q1), .second, .val (.int p2), .val (.long (q1 &&& (4611686018427387903 : Int64))), .second, .val (.long ((q1 &&& (4611686018427387903 : Int64)) / (10 : Int64))), .second, .val (.long ((q1 &&& (4611686018427387903 : Int64)) - ((q1 &&& (4611686018427387903 : Int64)) / (10 : Int64)) * (10 : Int64))), .second, .val (.long gb), .second, .val (.int ex), .val (.ref b7)] [(.int ex), (.int (worthV gb (q1 &&& (4611686018427387903 : Int64))))])) _
      refine XS.icmpNo X9.here hx rfl (hb hby at_112) rfl (teq (show (worthV gb (q1 &&& (4611686018427387903 : Int64))) = ex from (by rw [hex, hgb]; exact own_law _ _ (own_mask62 q1).1 (own_mask62 q1).2 (own_mask59 q0).1 (own_mask59 q0).2))).2 ?_
      show Steps p.tables e below (T9.setTop (mkF m 115 #[.val (.long q0), .second, .val (.long q1), .second, .val (.int p2), .val (.long (q1 &&& (4611686018427387903 : Int64))), .second, .val (.long ((q1 &&& (4611686018427387903 : Int64)) / (10 : Int64))), .second, .val (.long ((q1 &&& (4611686018427387903 : Int64)) - ((q1 &&& (4611686018427387903 : Int64)) / (10 : Int64)) * (10 : Int64))), .second, .val (.long gb), .second, .val (.int ex), .val (.ref b7)] [])) _
      refine XS.iconst X9.here hx rfl (hb hby at_115) ?_
      show Steps p.tables e below (T9.setTop (mkF m 116 #[.val (.long q0), .second, .val (.long q1), .second, .val (.int p2), .val (.long (q1 &&& (4611686018427387903 : Int64))), .second, .val (.long ((q1 &&& (4611686018427387903 : Int64)) / (10 : Int64))), .second, .val (.long ((q1 &&& (4611686018427387903 : Int64)) - ((q1 &&& (4611686018427387903 : Int64)) / (10 : Int64)) * (10 : Int64))), .second, .val (.long gb), .second, .val (.int ex), .val (.ref b7)] [(.int (1 : Int32))])) _
      refine XS.goto X9.here hx rfl (pc0 := 116) (pc' := 120) rfl (hb hby at_116) (by decide) (by decide) ?_
      show Steps p.tables e below (T9.setTop (mkF m 120 #[.val (.long q0), .second, .val (.long q1), .second, .val (.int p2), .val (.long (q1 &&& (4611686018427387903 : Int64))), .second, .val (.long ((q1 &&& (4611686018427387903 : Int64)) / (10 : Int64))), .second, .val (.long ((q1 &&& (4611686018427387903 : Int64)) - ((q1 &&& (4611686018427387903 : Int64)) / (10 : Int64)) * (10 : Int64))), .second, .val (.long gb), .second, .val (.int ex), .val (.ref b7)] [(.int (1 : Int32))])) _
      exact retN X9 hx (t := .boolean) Bd.returns (by simp) (hb hby at_120) hr
    · show Q0 h0 n0 _ T9.heap _
      rw [e9]
      exact ⟨rfl, N9⟩
  · obtain ⟨_, _, ⟨T10, L10, k10, n10⟩, -, X10, ⟨Lc10, hQ10, l10, y10, z10⟩, st10⟩ := Jvm.LawKit.callS X0 hx (y := (⟨"java/lang/Math", "max", "(JJ)J"⟩ : MethodName)) hown (mvT hZ (hw _ (List.mem_of_getElem? (i := 27) rfl))) (mvT hZ (hw _ (List.mem_of_getElem? (i := 28) rfl))) (mvT hZ (hw _ (List.mem_of_getElem? (i := 29) rfl))) (mvT hZ (hw _ (List.mem_of_getElem? (i := 30) rfl))) (by decide) (backOf (W := 0) (rm5 l Z a0 hw [] (0 : Int64) (((q1 &&& (4611686018427387903 : Int64)) / (10 : Int64)) + ((((p2 >>> ((1 : Int32) &&& 31)) &&& (3 : Int32)) - (1 : Int32)).toInt64)) h0 n0 Z0 ) hZ (hw _ (List.mem_of_getElem? (i := 30) rfl)) (hw _ (List.mem_of_getElem? (i := 29) rfl)) (by decide) (by decide)) (g := (mkF m 57 #[.val (.long q0), .second, .val (.long q1), .second, .val (.int p2), .val (.long (q1 &&& (4611686018427387903 : Int64))), .second, .val (.long ((q1 &&& (4611686018427387903 : Int64)) / (10 : Int64))), .second, .val (.long ((q1 &&& (4611686018427387903 : Int64)) - ((q1 &&& (4611686018427387903 : Int64)) / (10 : Int64)) * (10 : Int64))), .second, .unset, .unset, .val (.long ((((p2 >>> ((1 : Int32) &&& 31)) &&& (3 : Int32)) - (1 : Int32)).toInt64)), .second] [(.long (((q1 &&& (4611686018427387903 : Int64)) / (10 : Int64)) + ((((p2 >>> ((1 : Int32) &&& 31)) &&& (3 : Int32)) - (1 : Int32)).toInt64))), (.long (0 : Int64))])) rfl (by rw [hml]; rfl) (argsL := [(.long (0 : Int64)), (.long (((q1 &&& (4611686018427387903 : Int64)) / (10 : Int64)) + ((((p2 >>> ((1 : Int32) &&& 31)) &&& (3 : Int32)) - (1 : Int32)).toInt64)))]) (rest := []) (lenOf pd_3 rfl) rfl (by show 2 * 0 + _ ≤ _; exact Nat.le_of_eq rfl) (hb hby at_57) (fun _ _ => ⟨rfl, e0, (by decide : 0 + 0 ≤ _), (by decide : 0 + 0 ≤ _)⟩)
    dsimp only [Pt.U, Pt.locs, Pt.cells, Pt.slots] at X10 l10 y10 z10 st10 hQ10
    subst l10 y10 z10
    obtain ⟨rfl, N10q, e10⟩ := hQ10
    have N10 := Fr.app N0 N10q
    have pre11 : ∀ t, Steps p.tables e below (T10.setTop (mkF m 62 #[.val (.long q0), .second, .val (.long q1), .second, .val (.int p2), .val (.long (q1 &&& (4611686018427387903 : Int64))), .second, .val (.long ((q1 &&& (4611686018427387903 : Int64)) / (10 : Int64))), .second, .val (.long ((q1 &&& (4611686018427387903 : Int64)) - ((q1 &&& (4611686018427387903 : Int64)) / (10 : Int64)) * (10 : Int64))), .second, .val (.long (maxV (0 : Int64) (((q1 &&& (4611686018427387903 : Int64)) / (10 : Int64)) + ((((p2 >>> ((1 : Int32) &&& 31)) &&& (3 : Int32)) - (1 : Int32)).toInt64)))), .second, .val (.long ((((p2 >>> ((1 : Int32) &&& 31)) &&& (3 : Int32)) - (1 : Int32)).toInt64)), .second] [])) t → Steps p.tables e below (s₁.setTop (entryFrame m #[(.long q0), (.long q1), (.int p2)] maxLocals)) t := fun t kt => pre1 t (by
        show Steps p.tables e below (s₁.setTop (mkF m 27 #[.val (.long q0), .second, .val (.long q1), .second, .val (.int p2), .val (.long (q1 &&& (4611686018427387903 : Int64))), .second, .val (.long ((q1 &&& (4611686018427387903 : Int64)) / (10 : Int64))), .second, .val (.long ((q1 &&& (4611686018427387903 : Int64)) - ((q1 &&& (4611686018427387903 : Int64)) / (10 : Int64)) * (10 : Int64))), .second, .unset, .unset, .unset, .unset] [(.int (p2 &&& (1 : Int32)))])) _
        refine XS.ifYes X0.here hx rfl (pc0 := 27) (pc' := 40) rfl (hb hby at_27) rfl ((if0 _ _).trans (feq (show ¬ ((p2 &&& (1 : Int32)) = (0 : Int32)) from hc27)).2) (by decide) (by decide) ?_
        show Steps p.tables e below (s₁.setTop (mkF m 40 #[.val (.long q0), .second, .val (.long q1), .second, .val (.int p2), .val (.long (q1 &&& (4611686018427387903 : Int64))), .second, .val (.long ((q1 &&& (4611686018427387903 : Int64)) / (10 : Int64))), .second, .val (.long ((q1 &&& (4611686018427387903 : Int64)) - ((q1 &&& (4611686018427387903 : Int64)) / (10 : Int64)) * (10 : Int64))), .second, .unset, .unset, .unset, .unset] [])) _
        refine XS.iload X0.here hx rfl (hb hby at_40) rfl ?_
        show Steps p.tables e below (s₁.setTop (mkF m 42 #[.val (.long q0), .second, .val (.long q1), .second, .val (.int p2), .val (.long (q1 &&& (4611686018427387903 : Int64))), .second, .val (.long ((q1 &&& (4611686018427387903 : Int64)) / (10 : Int64))), .second, .val (.long ((q1 &&& (4611686018427387903 : Int64)) - ((q1 &&& (4611686018427387903 : Int64)) / (10 : Int64)) * (10 : Int64))), .second, .unset, .unset, .unset, .unset] [(.int p2)])) _
        refine XS.iconst X0.here hx rfl (hb hby at_42) ?_
        show Steps p.tables e below (s₁.setTop (mkF m 43 #[.val (.long q0), .second, .val (.long q1), .second, .val (.int p2), .val (.long (q1 &&& (4611686018427387903 : Int64))), .second, .val (.long ((q1 &&& (4611686018427387903 : Int64)) / (10 : Int64))), .second, .val (.long ((q1 &&& (4611686018427387903 : Int64)) - ((q1 &&& (4611686018427387903 : Int64)) / (10 : Int64)) * (10 : Int64))), .second, .unset, .unset, .unset, .unset] [(.int (1 : Int32)), (.int p2)])) _
        refine XS.ishr X0.here hx rfl (hb hby at_43) rfl ?_
        show Steps p.tables e below (s₁.setTop (mkF m 44 #[.val (.long q0), .second, .val (.long q1), .second, .val (.int p2), .val (.long (q1 &&& (4611686018427387903 : Int64))), .second, .val (.long ((q1 &&& (4611686018427387903 : Int64)) / (10 : Int64))), .second, .val (.long ((q1 &&& (4611686018427387903 : Int64)) - ((q1 &&& (4611686018427387903 : Int64)) / (10 : Int64)) * (10 : Int64))), .second, .unset, .unset, .unset, .unset] [(.int (p2 >>> ((1 : Int32) &&& 31)))])) _
        refine XS.iconst X0.here hx rfl (hb hby at_44) ?_
        show Steps p.tables e below (s₁.setTop (mkF m 45 #[.val (.long q0), .second, .val (.long q1), .second, .val (.int p2), .val (.long (q1 &&& (4611686018427387903 : Int64))), .second, .val (.long ((q1 &&& (4611686018427387903 : Int64)) / (10 : Int64))), .second, .val (.long ((q1 &&& (4611686018427387903 : Int64)) - ((q1 &&& (4611686018427387903 : Int64)) / (10 : Int64)) * (10 : Int64))), .second, .unset, .unset, .unset, .unset] [(.int (3 : Int32)), (.int (p2 >>> ((1 : Int32) &&& 31)))])) _
        refine XS.iand X0.here hx rfl (hb hby at_45) rfl ?_
        show Steps p.tables e below (s₁.setTop (mkF m 46 #[.val (.long q0), .second, .val (.long q1), .second, .val (.int p2), .val (.long (q1 &&& (4611686018427387903 : Int64))), .second, .val (.long ((q1 &&& (4611686018427387903 : Int64)) / (10 : Int64))), .second, .val (.long ((q1 &&& (4611686018427387903 : Int64)) - ((q1 &&& (4611686018427387903 : Int64)) / (10 : Int64)) * (10 : Int64))), .second, .unset, .unset, .unset, .unset] [(.int ((p2 >>> ((1 : Int32) &&& 31)) &&& (3 : Int32)))])) _
        refine XS.iconst X0.here hx rfl (hb hby at_46) ?_
        show Steps p.tables e below (s₁.setTop (mkF m 47 #[.val (.long q0), .second, .val (.long q1), .second, .val (.int p2), .val (.long (q1 &&& (4611686018427387903 : Int64))), .second, .val (.long ((q1 &&& (4611686018427387903 : Int64)) / (10 : Int64))), .second, .val (.long ((q1 &&& (4611686018427387903 : Int64)) - ((q1 &&& (4611686018427387903 : Int64)) / (10 : Int64)) * (10 : Int64))), .second, .unset, .unset, .unset, .unset] [(.int (1 : Int32)), (.int ((p2 >>> ((1 : Int32) &&& 31)) &&& (3 : Int32)))])) _
        refine XS.isub X0.here hx rfl (hb hby at_47) rfl ?_
        show Steps p.tables e below (s₁.setTop (mkF m 48 #[.val (.long q0), .second, .val (.long q1), .second, .val (.int p2), .val (.long (q1 &&& (4611686018427387903 : Int64))), .second, .val (.long ((q1 &&& (4611686018427387903 : Int64)) / (10 : Int64))), .second, .val (.long ((q1 &&& (4611686018427387903 : Int64)) - ((q1 &&& (4611686018427387903 : Int64)) / (10 : Int64)) * (10 : Int64))), .second, .unset, .unset, .unset, .unset] [(.int (((p2 >>> ((1 : Int32) &&& 31)) &&& (3 : Int32)) - (1 : Int32)))])) _
        refine XS.i2l X0.here hx rfl (hb hby at_48) rfl ?_
        show Steps p.tables e below (s₁.setTop (mkF m 49 #[.val (.long q0), .second, .val (.long q1), .second, .val (.int p2), .val (.long (q1 &&& (4611686018427387903 : Int64))), .second, .val (.long ((q1 &&& (4611686018427387903 : Int64)) / (10 : Int64))), .second, .val (.long ((q1 &&& (4611686018427387903 : Int64)) - ((q1 &&& (4611686018427387903 : Int64)) / (10 : Int64)) * (10 : Int64))), .second, .unset, .unset, .unset, .unset] [(.long ((((p2 >>> ((1 : Int32) &&& 31)) &&& (3 : Int32)) - (1 : Int32)).toInt64))])) _
        refine XS.lstore X0.here hx rfl (hb hby at_49) rfl (l' := #[.val (.long q0), .second, .val (.long q1), .second, .val (.int p2), .val (.long (q1 &&& (4611686018427387903 : Int64))), .second, .val (.long ((q1 &&& (4611686018427387903 : Int64)) / (10 : Int64))), .second, .val (.long ((q1 &&& (4611686018427387903 : Int64)) - ((q1 &&& (4611686018427387903 : Int64)) / (10 : Int64)) * (10 : Int64))), .second, .unset, .unset, .val (.long ((((p2 >>> ((1 : Int32) &&& 31)) &&& (3 : Int32)) - (1 : Int32)).toInt64)), .second]) rfl ?_
        show Steps p.tables e below (s₁.setTop (mkF m 51 #[.val (.long q0), .second, .val (.long q1), .second, .val (.int p2), .val (.long (q1 &&& (4611686018427387903 : Int64))), .second, .val (.long ((q1 &&& (4611686018427387903 : Int64)) / (10 : Int64))), .second, .val (.long ((q1 &&& (4611686018427387903 : Int64)) - ((q1 &&& (4611686018427387903 : Int64)) / (10 : Int64)) * (10 : Int64))), .second, .unset, .unset, .val (.long ((((p2 >>> ((1 : Int32) &&& 31)) &&& (3 : Int32)) - (1 : Int32)).toInt64)), .second] [])) _
        refine XS.lconst X0.here hx rfl (hb hby at_51) ?_
        show Steps p.tables e below (s₁.setTop (mkF m 52 #[.val (.long q0), .second, .val (.long q1), .second, .val (.int p2), .val (.long (q1 &&& (4611686018427387903 : Int64))), .second, .val (.long ((q1 &&& (4611686018427387903 : Int64)) / (10 : Int64))), .second, .val (.long ((q1 &&& (4611686018427387903 : Int64)) - ((q1 &&& (4611686018427387903 : Int64)) / (10 : Int64)) * (10 : Int64))), .second, .unset, .unset, .val (.long ((((p2 >>> ((1 : Int32) &&& 31)) &&& (3 : Int32)) - (1 : Int32)).toInt64)), .second] [(.long (0 : Int64))])) _
        refine XS.lload X0.here hx rfl (hb hby at_52) rfl ?_
        show Steps p.tables e below (s₁.setTop (mkF m 54 #[.val (.long q0), .second, .val (.long q1), .second, .val (.int p2), .val (.long (q1 &&& (4611686018427387903 : Int64))), .second, .val (.long ((q1 &&& (4611686018427387903 : Int64)) / (10 : Int64))), .second, .val (.long ((q1 &&& (4611686018427387903 : Int64)) - ((q1 &&& (4611686018427387903 : Int64)) / (10 : Int64)) * (10 : Int64))), .second, .unset, .unset, .val (.long ((((p2 >>> ((1 : Int32) &&& 31)) &&& (3 : Int32)) - (1 : Int32)).toInt64)), .second] [(.long ((q1 &&& (4611686018427387903 : Int64)) / (10 : Int64))), (.long (0 : Int64))])) _
        refine XS.lload X0.here hx rfl (hb hby at_54) rfl ?_
        show Steps p.tables e below (s₁.setTop (mkF m 56 #[.val (.long q0), .second, .val (.long q1), .second, .val (.int p2), .val (.long (q1 &&& (4611686018427387903 : Int64))), .second, .val (.long ((q1 &&& (4611686018427387903 : Int64)) / (10 : Int64))), .second, .val (.long ((q1 &&& (4611686018427387903 : Int64)) - ((q1 &&& (4611686018427387903 : Int64)) / (10 : Int64)) * (10 : Int64))), .second, .unset, .unset, .val (.long ((((p2 >>> ((1 : Int32) &&& 31)) &&& (3 : Int32)) - (1 : Int32)).toInt64)), .second] [(.long ((((p2 >>> ((1 : Int32) &&& 31)) &&& (3 : Int32)) - (1 : Int32)).toInt64)), (.long ((q1 &&& (4611686018427387903 : Int64)) / (10 : Int64))), (.long (0 : Int64))])) _
        refine XS.ladd X0.here hx rfl (hb hby at_56) rfl ?_
        show Steps p.tables e below (s₁.setTop (mkF m 57 #[.val (.long q0), .second, .val (.long q1), .second, .val (.int p2), .val (.long (q1 &&& (4611686018427387903 : Int64))), .second, .val (.long ((q1 &&& (4611686018427387903 : Int64)) / (10 : Int64))), .second, .val (.long ((q1 &&& (4611686018427387903 : Int64)) - ((q1 &&& (4611686018427387903 : Int64)) / (10 : Int64)) * (10 : Int64))), .second, .unset, .unset, .val (.long ((((p2 >>> ((1 : Int32) &&& 31)) &&& (3 : Int32)) - (1 : Int32)).toInt64)), .second] [(.long (((q1 &&& (4611686018427387903 : Int64)) / (10 : Int64)) + ((((p2 >>> ((1 : Int32) &&& 31)) &&& (3 : Int32)) - (1 : Int32)).toInt64))), (.long (0 : Int64))])) _
        refine st10 _ ?_
        show Steps p.tables e below (T10.setTop (mkF m 60 #[.val (.long q0), .second, .val (.long q1), .second, .val (.int p2), .val (.long (q1 &&& (4611686018427387903 : Int64))), .second, .val (.long ((q1 &&& (4611686018427387903 : Int64)) / (10 : Int64))), .second, .val (.long ((q1 &&& (4611686018427387903 : Int64)) - ((q1 &&& (4611686018427387903 : Int64)) / (10 : Int64)) * (10 : Int64))), .second, .unset, .unset, .val (.long ((((p2 >>> ((1 : Int32) &&& 31)) &&& (3 : Int32)) - (1 : Int32)).toInt64)), .second] [(.long (maxV (0 : Int64) (((q1 &&& (4611686018427387903 : Int64)) / (10 : Int64)) + ((((p2 >>> ((1 : Int32) &&& 31)) &&& (3 : Int32)) - (1 : Int32)).toInt64))))])) _
        refine XS.lstore X10.here hx rfl (hb hby at_60) rfl (l' := #[.val (.long q0), .second, .val (.long q1), .second, .val (.int p2), .val (.long (q1 &&& (4611686018427387903 : Int64))), .second, .val (.long ((q1 &&& (4611686018427387903 : Int64)) / (10 : Int64))), .second, .val (.long ((q1 &&& (4611686018427387903 : Int64)) - ((q1 &&& (4611686018427387903 : Int64)) / (10 : Int64)) * (10 : Int64))), .second, .val (.long (maxV (0 : Int64) (((q1 &&& (4611686018427387903 : Int64)) / (10 : Int64)) + ((((p2 >>> ((1 : Int32) &&& 31)) &&& (3 : Int32)) - (1 : Int32)).toInt64)))), .second, .val (.long ((((p2 >>> ((1 : Int32) &&& 31)) &&& (3 : Int32)) - (1 : Int32)).toInt64)), .second]) rfl ?_
        exact kt)
    obtain ⟨gb, hgb⟩ : ∃ z : Int64, z = (maxV (0 : Int64) (((q1 &&& (4611686018427387903 : Int64)) / (10 : Int64)) + ((((p2 >>> ((1 : Int32) &&& 31)) &&& (3 : Int32)) - (1 : Int32)).toInt64))) := ⟨_, rfl⟩
    rw [← hgb] at pre11
    obtain ⟨ex, hex, pre15⟩ : ∃ ex : Int32, ex = (expV gb ((q1 &&& (4611686018427387903 : Int64)) / (10 : Int64)) ((q1 &&& (4611686018427387903 : Int64)) - ((q1 &&& (4611686018427387903 : Int64)) / (10 : Int64)) * (10 : Int64))) ∧ ∀ t, Steps p.tables e below (T10.setTop (mkF m 90 #[.val (.long q0), .second, .val (.long q1), .second, .val (.int p2), .val (.long (q1 &&& (4611686018427387903 : Int64))), .second, .val (.long ((q1 &&& (4611686018427387903 : Int64)) / (10 : Int64))), .second, .val (.long ((q1 &&& (4611686018427387903 : Int64)) - ((q1 &&& (4611686018427387903 : Int64)) / (10 : Int64)) * (10 : Int64))), .second, .val (.long gb), .second, .val (.long ((((p2 >>> ((1 : Int32) &&& 31)) &&& (3 : Int32)) - (1 : Int32)).toInt64)), .second] [(.int ex)])) t → Steps p.tables e below (s₁.setTop (entryFrame m #[(.long q0), (.long q1), (.int p2)] maxLocals)) t := by
      have pre12 : ∀ t, Steps p.tables e below (T10.setTop (mkF m 67 #[.val (.long q0), .second, .val (.long q1), .second, .val (.int p2), .val (.long (q1 &&& (4611686018427387903 : Int64))), .second, .val (.long ((q1 &&& (4611686018427387903 : Int64)) / (10 : Int64))), .second, .val (.long ((q1 &&& (4611686018427387903 : Int64)) - ((q1 &&& (4611686018427387903 : Int64)) / (10 : Int64)) * (10 : Int64))), .second, .val (.long gb), .second, .val (.long ((((p2 >>> ((1 : Int32) &&& 31)) &&& (3 : Int32)) - (1 : Int32)).toInt64)), .second] [(.int (lcmpW gb ((q1 &&& (4611686018427387903 : Int64)) / (10 : Int64))))])) t → Steps p.tables e below (s₁.setTop (entryFrame m #[(.long q0), (.long q1), (.int p2)] maxLocals)) t := fun t kt => pre11 t (by
          show Steps p.tables e below (T10.setTop (mkF m 62 #[.val (.long q0), .second, .val (.long q1), .second, .val (.int p2), .val (.long (q1 &&& (4611686018427387903 : Int64))), .second, .val (.long ((q1 &&& (4611686018427387903 : Int64)) / (10 : Int64))), .second, .val (.long ((q1 &&& (4611686018427387903 : Int64)) - ((q1 &&& (4611686018427387903 : Int64)) / (10 : Int64)) * (10 : Int64))), .second, .val (.long gb), .second, .val (.long ((((p2 >>> ((1 : Int32) &&& 31)) &&& (3 : Int32)) - (1 : Int32)).toInt64)), .second] [])) _
          refine XS.lload X10.here hx rfl (hb hby at_62) rfl ?_
          show Steps p.tables e below (T10.setTop (mkF m 64 #[.val (.long q0), .second, .val (.long q1), .second, .val (.int p2), .val (.long (q1 &&& (4611686018427387903 : Int64))), .second, .val (.long ((q1 &&& (4611686018427387903 : Int64)) / (10 : Int64))), .second, .val (.long ((q1 &&& (4611686018427387903 : Int64)) - ((q1 &&& (4611686018427387903 : Int64)) / (10 : Int64)) * (10 : Int64))), .second, .val (.long gb), .second, .val (.long ((((p2 >>> ((1 : Int32) &&& 31)) &&& (3 : Int32)) - (1 : Int32)).toInt64)), .second] [(.long gb)])) _
          refine XS.lload X10.here hx rfl (hb hby at_64) rfl ?_
          show Steps p.tables e below (T10.setTop (mkF m 66 #[.val (.long q0), .second, .val (.long q1), .second, .val (.int p2), .val (.long (q1 &&& (4611686018427387903 : Int64))), .second, .val (.long ((q1 &&& (4611686018427387903 : Int64)) / (10 : Int64))), .second, .val (.long ((q1 &&& (4611686018427387903 : Int64)) - ((q1 &&& (4611686018427387903 : Int64)) / (10 : Int64)) * (10 : Int64))), .second, .val (.long gb), .second, .val (.long ((((p2 >>> ((1 : Int32) &&& 31)) &&& (3 : Int32)) - (1 : Int32)).toInt64)), .second] [(.long ((q1 &&& (4611686018427387903 : Int64)) / (10 : Int64))), (.long gb)])) _
          refine XS.lcmp X10.here hx rfl (hb hby at_66) rfl ?_
          exact kt)
      by_cases hc67 : ((q1 &&& (4611686018427387903 : Int64)) / (10 : Int64)) < gb
      · exact ⟨(1 : Int32), (by rw [expV, if_pos hc67]), fun t kt => pre12 t (by
            show Steps p.tables e below (T10.setTop (mkF m 67 #[.val (.long q0), .second, .val (.long q1), .second, .val (.int p2), .val (.long (q1 &&& (4611686018427387903 : Int64))), .second, .val (.long ((q1 &&& (4611686018427387903 : Int64)) / (10 : Int64))), .second, .val (.long ((q1 &&& (4611686018427387903 : Int64)) - ((q1 &&& (4611686018427387903 : Int64)) / (10 : Int64)) * (10 : Int64))), .second, .val (.long gb), .second, .val (.long ((((p2 >>> ((1 : Int32) &&& 31)) &&& (3 : Int32)) - (1 : Int32)).toInt64)), .second] [(.int (lcmpW gb ((q1 &&& (4611686018427387903 : Int64)) / (10 : Int64))))])) _
            refine XS.ifYes X10.here hx rfl (pc0 := 67) (pc' := 85) rfl (hb hby at_67) rfl ((if0 _ _).trans (tlt (show (0 : Int32) < (lcmpW gb ((q1 &&& (4611686018427387903 : Int64)) / (10 : Int64))) from ((lw_gt _ _).mpr hc67))).2.2.1) (by decide) (by decide) ?_
            show Steps p.tables e below (T10.setTop (mkF m 85 #[.val (.long q0), .second, .val (.long q1), .second, .val (.int p2), .val (.long (q1 &&& (4611686018427387903 : Int64))), .second, .val (.long ((q1 &&& (4611686018427387903 : Int64)) / (10 : Int64))), .second, .val (.long ((q1 &&& (4611686018427387903 : Int64)) - ((q1 &&& (4611686018427387903 : Int64)) / (10 : Int64)) * (10 : Int64))), .second, .val (.long gb), .second, .val (.long ((((p2 >>> ((1 : Int32) &&& 31)) &&& (3 : Int32)) - (1 : Int32)).toInt64)), .second] [])) _
            refine XS.iconst X10.here hx rfl (hb hby at_85) ?_
            show Steps p.tables e below (T10.setTop (mkF m 86 #[.val (.long q0), .second, .val (.long q1), .second, .val (.int p2), .val (.long (q1 &&& (4611686018427387903 : Int64))), .second, .val (.long ((q1 &&& (4611686018427387903 : Int64)) / (10 : Int64))), .second, .val (.long ((q1 &&& (4611686018427387903 : Int64)) - ((q1 &&& (4611686018427387903 : Int64)) / (10 : Int64)) * (10 : Int64))), .second, .val (.long gb), .second, .val (.long ((((p2 >>> ((1 : Int32) &&& 31)) &&& (3 : Int32)) - (1 : Int32)).toInt64)), .second] [(.int (1 : Int32))])) _
            refine XS.goto X10.here hx rfl (pc0 := 86) (pc' := 90) rfl (hb hby at_86) (by decide) (by decide) ?_
            exact kt)⟩
      · have pre13 : ∀ t, Steps p.tables e below (T10.setTop (mkF m 75 #[.val (.long q0), .second, .val (.long q1), .second, .val (.int p2), .val (.long (q1 &&& (4611686018427387903 : Int64))), .second, .val (.long ((q1 &&& (4611686018427387903 : Int64)) / (10 : Int64))), .second, .val (.long ((q1 &&& (4611686018427387903 : Int64)) - ((q1 &&& (4611686018427387903 : Int64)) / (10 : Int64)) * (10 : Int64))), .second, .val (.long gb), .second, .val (.long ((((p2 >>> ((1 : Int32) &&& 31)) &&& (3 : Int32)) - (1 : Int32)).toInt64)), .second] [(.int (lcmpW gb ((q1 &&& (4611686018427387903 : Int64)) / (10 : Int64))))])) t → Steps p.tables e below (s₁.setTop (entryFrame m #[(.long q0), (.long q1), (.int p2)] maxLocals)) t := fun t kt => pre12 t (by
            show Steps p.tables e below (T10.setTop (mkF m 67 #[.val (.long q0), .second, .val (.long q1), .second, .val (.int p2), .val (.long (q1 &&& (4611686018427387903 : Int64))), .second, .val (.long ((q1 &&& (4611686018427387903 : Int64)) / (10 : Int64))), .second, .val (.long ((q1 &&& (4611686018427387903 : Int64)) - ((q1 &&& (4611686018427387903 : Int64)) / (10 : Int64)) * (10 : Int64))), .second, .val (.long gb), .second, .val (.long ((((p2 >>> ((1 : Int32) &&& 31)) &&& (3 : Int32)) - (1 : Int32)).toInt64)), .second] [(.int (lcmpW gb ((q1 &&& (4611686018427387903 : Int64)) / (10 : Int64))))])) _
            refine XS.ifNo X10.here hx rfl (hb hby at_67) rfl ((if0 _ _).trans (flt (show ¬ ((0 : Int32) < (lcmpW gb ((q1 &&& (4611686018427387903 : Int64)) / (10 : Int64)))) from (fun q => hc67 ((lw_gt _ _).mp q)))).2.2.1) ?_
            show Steps p.tables e below (T10.setTop (mkF m 70 #[.val (.long q0), .second, .val (.long q1), .second, .val (.int p2), .val (.long (q1 &&& (4611686018427387903 : Int64))), .second, .val (.long ((q1 &&& (4611686018427387903 : Int64)) / (10 : Int64))), .second, .val (.long ((q1 &&& (4611686018427387903 : Int64)) - ((q1 &&& (4611686018427387903 : Int64)) / (10 : Int64)) * (10 : Int64))), .second, .val (.long gb), .second, .val (.long ((((p2 >>> ((1 : Int32) &&& 31)) &&& (3 : Int32)) - (1 : Int32)).toInt64)), .second] [])) _
            refine XS.lload X10.here hx rfl (hb hby at_70) rfl ?_
            show Steps p.tables e below (T10.setTop (mkF m 72 #[.val (.long q0), .second, .val (.long q1), .second, .val (.int p2), .val (.long (q1 &&& (4611686018427387903 : Int64))), .second, .val (.long ((q1 &&& (4611686018427387903 : Int64)) / (10 : Int64))), .second, .val (.long ((q1 &&& (4611686018427387903 : Int64)) - ((q1 &&& (4611686018427387903 : Int64)) / (10 : Int64)) * (10 : Int64))), .second, .val (.long gb), .second, .val (.long ((((p2 >>> ((1 : Int32) &&& 31)) &&& (3 : Int32)) - (1 : Int32)).toInt64)), .second] [(.long gb)])) _
            refine XS.lload X10.here hx rfl (hb hby at_72) rfl ?_
            show Steps p.tables e below (T10.setTop (mkF m 74 #[.val (.long q0), .second, .val (.long q1), .second, .val (.int p2), .val (.long (q1 &&& (4611686018427387903 : Int64))), .second, .val (.long ((q1 &&& (4611686018427387903 : Int64)) / (10 : Int64))), .second, .val (.long ((q1 &&& (4611686018427387903 : Int64)) - ((q1 &&& (4611686018427387903 : Int64)) / (10 : Int64)) * (10 : Int64))), .second, .val (.long gb), .second, .val (.long ((((p2 >>> ((1 : Int32) &&& 31)) &&& (3 : Int32)) - (1 : Int32)).toInt64)), .second] [(.long ((q1 &&& (4611686018427387903 : Int64)) / (10 : Int64))), (.long gb)])) _
            refine XS.lcmp X10.here hx rfl (hb hby at_74) rfl ?_
            exact kt)
        by_cases hc75 : gb = ((q1 &&& (4611686018427387903 : Int64)) / (10 : Int64))
        · have pre14 : ∀ t, Steps p.tables e below (T10.setTop (mkF m 82 #[.val (.long q0), .second, .val (.long q1), .second, .val (.int p2), .val (.long (q1 &&& (4611686018427387903 : Int64))), .second, .val (.long ((q1 &&& (4611686018427387903 : Int64)) / (10 : Int64))), .second, .val (.long ((q1 &&& (4611686018427387903 : Int64)) - ((q1 &&& (4611686018427387903 : Int64)) / (10 : Int64)) * (10 : Int64))), .second, .val (.long gb), .second, .val (.long ((((p2 >>> ((1 : Int32) &&& 31)) &&& (3 : Int32)) - (1 : Int32)).toInt64)), .second] [(.int (lcmpW ((q1 &&& (4611686018427387903 : Int64)) - ((q1 &&& (4611686018427387903 : Int64)) / (10 : Int64)) * (10 : Int64)) (0 : Int64)))])) t → Steps p.tables e below (s₁.setTop (entryFrame m #[(.long q0), (.long q1), (.int p2)] maxLocals)) t := fun t kt => pre13 t (by
              show Steps p.tables e below (T10.setTop (mkF m 75 #[.val (.long q0), .second, .val (.long q1), .second, .val (.int p2), .val (.long (q1 &&& (4611686018427387903 : Int64))), .second, .val (.long ((q1 &&& (4611686018427387903 : Int64)) / (10 : Int64))), .second, .val (.long ((q1 &&& (4611686018427387903 : Int64)) - ((q1 &&& (4611686018427387903 : Int64)) / (10 : Int64)) * (10 : Int64))), .second, .val (.long gb), .second, .val (.long ((((p2 >>> ((1 : Int32) &&& 31)) &&& (3 : Int32)) - (1 : Int32)).toInt64)), .second] [(.int (lcmpW gb ((q1 &&& (4611686018427387903 : Int64)) / (10 : Int64))))])) _
              refine XS.ifNo X10.here hx rfl (hb hby at_75) rfl ((if0 _ _).trans (teq (show (lcmpW gb ((q1 &&& (4611686018427387903 : Int64)) / (10 : Int64))) = (0 : Int32) from ((lw_eq _ _).mpr hc75))).2) ?_
              show Steps p.tables e below (T10.setTop (mkF m 78 #[.val (.long q0), .second, .val (.long q1), .second, .val (.int p2), .val (.long (q1 &&& (4611686018427387903 : Int64))), .second, .val (.long ((q1 &&& (4611686018427387903 : Int64)) / (10 : Int64))), .second, .val (.long ((q1 &&& (4611686018427387903 : Int64)) - ((q1 &&& (4611686018427387903 : Int64)) / (10 : Int64)) * (10 : Int64))), .second, .val (.long gb), .second, .val (.long ((((p2 >>> ((1 : Int32) &&& 31)) &&& (3 : Int32)) - (1 : Int32)).toInt64)), .second] [])) _
              refine XS.lload X10.here hx rfl (hb hby at_78) rfl ?_
              show Steps p.tables e below (T10.setTop (mkF m 80 #[.val (.long q0), .second, .val (.long q1), .second, .val (.int p2), .val (.long (q1 &&& (4611686018427387903 : Int64))), .second, .val (.long ((q1 &&& (4611686018427387903 : Int64)) / (10 : Int64))), .second, .val (.long ((q1 &&& (4611686018427387903 : Int64)) - ((q1 &&& (4611686018427387903 : Int64)) / (10 : Int64)) * (10 : Int64))), .second, .val (.long gb), .second, .val (.long ((((p2 >>> ((1 : Int32) &&& 31)) &&& (3 : Int32)) - (1 : Int32)).toInt64)), .second] [(.long ((q1 &&& (4611686018427387903 : Int64)) - ((q1 &&& (4611686018427387903 : Int64)) / (10 : Int64)) * (10 : Int64)))])) _
              refine XS.lconst X10.here hx rfl (hb hby at_80) ?_
              show Steps p.tables e below (T10.setTop (mkF m 81 #[.val (.long q0), .second, .val (.long q1), .second, .val (.int p2), .val (.long (q1 &&& (4611686018427387903 : Int64))), .second, .val (.long ((q1 &&& (4611686018427387903 : Int64)) / (10 : Int64))), .second, .val (.long ((q1 &&& (4611686018427387903 : Int64)) - ((q1 &&& (4611686018427387903 : Int64)) / (10 : Int64)) * (10 : Int64))), .second, .val (.long gb), .second, .val (.long ((((p2 >>> ((1 : Int32) &&& 31)) &&& (3 : Int32)) - (1 : Int32)).toInt64)), .second] [(.long (0 : Int64)), (.long ((q1 &&& (4611686018427387903 : Int64)) - ((q1 &&& (4611686018427387903 : Int64)) / (10 : Int64)) * (10 : Int64)))])) _
              refine XS.lcmp X10.here hx rfl (hb hby at_81) rfl ?_
              exact kt)
          by_cases hc82 : ((q1 &&& (4611686018427387903 : Int64)) - ((q1 &&& (4611686018427387903 : Int64)) / (10 : Int64)) * (10 : Int64)) = (0 : Int64)
          · exact ⟨(1 : Int32), (by rw [expV, if_neg hc67, if_pos hc75, if_pos hc82]), fun t kt => pre14 t (by
                show Steps p.tables e below (T10.setTop (mkF m 82 #[.val (.long q0), .second, .val (.long q1), .second, .val (.int p2), .val (.long (q1 &&& (4611686018427387903 : Int64))), .second, .val (.long ((q1 &&& (4611686018427387903 : Int64)) / (10 : Int64))), .second, .val (.long ((q1 &&& (4611686018427387903 : Int64)) - ((q1 &&& (4611686018427387903 : Int64)) / (10 : Int64)) * (10 : Int64))), .second, .val (.long gb), .second, .val (.long ((((p2 >>> ((1 : Int32) &&& 31)) &&& (3 : Int32)) - (1 : Int32)).toInt64)), .second] [(.int (lcmpW ((q1 &&& (4611686018427387903 : Int64)) - ((q1 &&& (4611686018427387903 : Int64)) / (10 : Int64)) * (10 : Int64)) (0 : Int64)))])) _
                refine XS.ifNo X10.here hx rfl (hb hby at_82) rfl ((if0 _ _).trans (teq (show (lcmpW ((q1 &&& (4611686018427387903 : Int64)) - ((q1 &&& (4611686018427387903 : Int64)) / (10 : Int64)) * (10 : Int64)) (0 : Int64)) = (0 : Int32) from ((lw_eq _ _).mpr hc82))).2) ?_
                show Steps p.tables e below (T10.setTop (mkF m 85 #[.val (.long q0), .second, .val (.long q1), .second, .val (.int p2), .val (.long (q1 &&& (4611686018427387903 : Int64))), .second, .val (.long ((q1 &&& (4611686018427387903 : Int64)) / (10 : Int64))), .second, .val (.long ((q1 &&& (4611686018427387903 : Int64)) - ((q1 &&& (4611686018427387903 : Int64)) / (10 : Int64)) * (10 : Int64))), .second, .val (.long gb), .second, .val (.long ((((p2 >>> ((1 : Int32) &&& 31)) &&& (3 : Int32)) - (1 : Int32)).toInt64)), .second] [])) _
                refine XS.iconst X10.here hx rfl (hb hby at_85) ?_
                show Steps p.tables e below (T10.setTop (mkF m 86 #[.val (.long q0), .second, .val (.long q1), .second, .val (.int p2), .val (.long (q1 &&& (4611686018427387903 : Int64))), .second, .val (.long ((q1 &&& (4611686018427387903 : Int64)) / (10 : Int64))), .second, .val (.long ((q1 &&& (4611686018427387903 : Int64)) - ((q1 &&& (4611686018427387903 : Int64)) / (10 : Int64)) * (10 : Int64))), .second, .val (.long gb), .second, .val (.long ((((p2 >>> ((1 : Int32) &&& 31)) &&& (3 : Int32)) - (1 : Int32)).toInt64)), .second] [(.int (1 : Int32))])) _
                refine XS.goto X10.here hx rfl (pc0 := 86) (pc' := 90) rfl (hb hby at_86) (by decide) (by decide) ?_
                exact kt)⟩
          · exact ⟨(0 : Int32), (by rw [expV, if_neg hc67, if_pos hc75, if_neg hc82]), fun t kt => pre14 t (by
                show Steps p.tables e below (T10.setTop (mkF m 82 #[.val (.long q0), .second, .val (.long q1), .second, .val (.int p2), .val (.long (q1 &&& (4611686018427387903 : Int64))), .second, .val (.long ((q1 &&& (4611686018427387903 : Int64)) / (10 : Int64))), .second, .val (.long ((q1 &&& (4611686018427387903 : Int64)) - ((q1 &&& (4611686018427387903 : Int64)) / (10 : Int64)) * (10 : Int64))), .second, .val (.long gb), .second, .val (.long ((((p2 >>> ((1 : Int32) &&& 31)) &&& (3 : Int32)) - (1 : Int32)).toInt64)), .second] [(.int (lcmpW ((q1 &&& (4611686018427387903 : Int64)) - ((q1 &&& (4611686018427387903 : Int64)) / (10 : Int64)) * (10 : Int64)) (0 : Int64)))])) _
                refine XS.ifYes X10.here hx rfl (pc0 := 82) (pc' := 89) rfl (hb hby at_82) rfl ((if0 _ _).trans (feq (show ¬ ((lcmpW ((q1 &&& (4611686018427387903 : Int64)) - ((q1 &&& (4611686018427387903 : Int64)) / (10 : Int64)) * (10 : Int64)) (0 : Int64)) = (0 : Int32)) from (fun q => hc82 ((lw_eq _ _).mp q)))).2) (by decide) (by decide) ?_
                show Steps p.tables e below (T10.setTop (mkF m 89 #[.val (.long q0), .second, .val (.long q1), .second, .val (.int p2), .val (.long (q1 &&& (4611686018427387903 : Int64))), .second, .val (.long ((q1 &&& (4611686018427387903 : Int64)) / (10 : Int64))), .second, .val (.long ((q1 &&& (4611686018427387903 : Int64)) - ((q1 &&& (4611686018427387903 : Int64)) / (10 : Int64)) * (10 : Int64))), .second, .val (.long gb), .second, .val (.long ((((p2 >>> ((1 : Int32) &&& 31)) &&& (3 : Int32)) - (1 : Int32)).toInt64)), .second] [])) _
                refine XS.iconst X10.here hx rfl (hb hby at_89) ?_
                exact kt)⟩
        · exact ⟨(0 : Int32), (by rw [expV, if_neg hc67, if_neg hc75]), fun t kt => pre13 t (by
              show Steps p.tables e below (T10.setTop (mkF m 75 #[.val (.long q0), .second, .val (.long q1), .second, .val (.int p2), .val (.long (q1 &&& (4611686018427387903 : Int64))), .second, .val (.long ((q1 &&& (4611686018427387903 : Int64)) / (10 : Int64))), .second, .val (.long ((q1 &&& (4611686018427387903 : Int64)) - ((q1 &&& (4611686018427387903 : Int64)) / (10 : Int64)) * (10 : Int64))), .second, .val (.long gb), .second, .val (.long ((((p2 >>> ((1 : Int32) &&& 31)) &&& (3 : Int32)) - (1 : Int32)).toInt64)), .second] [(.int (lcmpW gb ((q1 &&& (4611686018427387903 : Int64)) / (10 : Int64))))])) _
              refine XS.ifYes X10.here hx rfl (pc0 := 75) (pc' := 89) rfl (hb hby at_75) rfl ((if0 _ _).trans (feq (show ¬ ((lcmpW gb ((q1 &&& (4611686018427387903 : Int64)) / (10 : Int64))) = (0 : Int32)) from (fun q => hc75 ((lw_eq _ _).mp q)))).2) (by decide) (by decide) ?_
              show Steps p.tables e below (T10.setTop (mkF m 89 #[.val (.long q0), .second, .val (.long q1), .second, .val (.int p2), .val (.long (q1 &&& (4611686018427387903 : Int64))), .second, .val (.long ((q1 &&& (4611686018427387903 : Int64)) / (10 : Int64))), .second, .val (.long ((q1 &&& (4611686018427387903 : Int64)) - ((q1 &&& (4611686018427387903 : Int64)) / (10 : Int64)) * (10 : Int64))), .second, .val (.long gb), .second, .val (.long ((((p2 >>> ((1 : Int32) &&& 31)) &&& (3 : Int32)) - (1 : Int32)).toInt64)), .second] [])) _
              refine XS.iconst X10.here hx rfl (hb hby at_89) ?_
              exact kt)⟩
    obtain ⟨T16, h16, X16, e16, E16, A16, D16, -, st16⟩ := newO X10 hx hZ hown (hw _ (List.mem_of_getElem? (i := 3) rfl)) (hw _ (List.mem_of_getElem? (i := 4) rfl)) (hw _ (List.mem_of_getElem? (i := 5) rfl)) e10 (g := (mkF m 92 #[.val (.long q0), .second, .val (.long q1), .second, .val (.int p2), .val (.long (q1 &&& (4611686018427387903 : Int64))), .second, .val (.long ((q1 &&& (4611686018427387903 : Int64)) / (10 : Int64))), .second, .val (.long ((q1 &&& (4611686018427387903 : Int64)) - ((q1 &&& (4611686018427387903 : Int64)) / (10 : Int64)) * (10 : Int64))), .second, .val (.long gb), .second, .val (.int ex), .unset] [])) rfl (hb hby at_92) (by decide) (by decide)
    obtain ⟨b16, g16⟩ : ∃ z, z = h0.size := ⟨_, rfl⟩
    rw [← g16] at A16 D16 st16
    have g_b16 : n0 ≤ b16 := Nat.le_trans Z0 (Nat.le_of_eq g16.symm)
    have sz_b16 : h0.size ≤ b16 := Nat.le_trans (Keep.refl h0 []).1 (Nat.le_of_eq g16.symm)
    have K16 : Keep h0 h16 [] := Keep.ext (Keep.refl h0 []) E16
    have Z16 : n0 ≤ h16.size := Nat.le_trans Z0 K16.1
    have F_garbage_b16 : Fld Z h16 b16 "com/example/heartwood/heartwood/store/GarbageEstimate" "garbage" "J" (.long (0 : Int64)) := D16 (Or.inr (hw _ (List.mem_of_getElem? (i := 18) rfl))) (ty := .long) (by decide)
    have F_size_b16 : Fld Z h16 b16 "com/example/heartwood/heartwood/store/GarbageEstimate" "size" "J" (.long (0 : Int64)) := D16 (Or.inr (hw _ (List.mem_of_getElem? (i := 20) rfl))) (ty := .long) (by decide)
    obtain ⟨_, _, ⟨T17, L17, k17, n17⟩, -, X17, ⟨Lc17, hQ17, l17, y17, z17⟩, st17⟩ := X16.specialBack hx (y := (⟨"com/example/heartwood/heartwood/store/GarbageEstimate", "<init>", "(JJ)V"⟩ : MethodName)) rfl hown (mvT hZ (hw _ (List.mem_of_getElem? (i := 6) rfl))) (mvT hZ (hw _ (List.mem_of_getElem? (i := 7) rfl))) (mvT hZ (hw _ (List.mem_of_getElem? (i := 8) rfl))) (by decide) (backOf (W := 1) (rm1 l Z a0 hw [] b16 gb (q1 &&& (4611686018427387903 : Int64)) h16 n0 Z16 A16 F_garbage_b16 F_size_b16 g_b16) hZ (hw _ (List.mem_of_getElem? (i := 8) rfl)) (hw _ (List.mem_of_getElem? (i := 5) rfl)) (by decide) (by decide)) (g := (mkF m 100 #[.val (.long q0), .second, .val (.long q1), .second, .val (.int p2), .val (.long (q1 &&& (4611686018427387903 : Int64))), .second, .val (.long ((q1 &&& (4611686018427387903 : Int64)) / (10 : Int64))), .second, .val (.long ((q1 &&& (4611686018427387903 : Int64)) - ((q1 &&& (4611686018427387903 : Int64)) / (10 : Int64)) * (10 : Int64))), .second, .val (.long gb), .second, .val (.int ex), .unset] [(.long (q1 &&& (4611686018427387903 : Int64))), (.long gb), (.ref b16), (.ref b16)])) rfl (by rw [hml]; rfl) (Steps.refl _) (a := b16) (argsL := [(.long gb), (.long (q1 &&& (4611686018427387903 : Int64)))]) (rest := [(.ref b16)]) (lenOf pd_1 rfl) rfl (by show 2 * 0 + _ ≤ _; exact Nat.le_of_eq rfl) (hb hby at_100) (fun _ _ => ⟨rfl, e16, (by decide : 1 + 0 ≤ _), (by decide : 2 + 0 ≤ _)⟩)
    dsimp only [Pt.U, Pt.locs, Pt.cells, Pt.slots] at X17 l17 y17 z17 st17 hQ17
    subst l17 y17 z17
    obtain ⟨rfl, N17q, K17, E17o, F17_0, F17_1⟩ := hQ17
    have KK17 : Keep h0 T17.heap [] := Keep.trans K16 K17 (own_side1 (Or.inr sz_b16))
    have Z17 : n0 ≤ T17.heap.size := Nat.le_trans Z0 KK17.1
    have N17 := Fr.app N10 N17q
    obtain ⟨cq18, kq18, q18a, q18b, q18c⟩ := isOf hZ rfl E17o
    obtain ⟨_, _, ⟨T18, L18, k18, n18⟩, -, X18, ⟨Lc18, hQ18, l18, y18, z18⟩, st18⟩ := X17.virtualBack hx (y := (⟨"com/example/heartwood/heartwood/store/GarbageEstimate", "worthACycle", "()Z"⟩ : MethodName)) (z := (⟨"com/example/heartwood/heartwood/store/GarbageEstimate", "worthACycle", "()Z"⟩ : MethodName)) hown (mvT hZ (hw _ (List.mem_of_getElem? (i := 21) rfl))) (mvT hZ (hw _ (List.mem_of_getElem? (i := 22) rfl))) (notFace_of_selects (args := #[]) (mvT hZ (hw _ (List.mem_of_getElem? (i := 24) rfl)))) (mvT hZ (hw _ (List.mem_of_getElem? (i := 24) rfl))) (mvT hZ (hw _ (List.mem_of_getElem? (i := 23) rfl))) (by decide) (backOf (W := 0) (rm4 l Z a0 hw [] b16 gb (q1 &&& (4611686018427387903 : Int64)) T17.heap n0 Z17 F17_0 F17_1) hZ (hw _ (List.mem_of_getElem? (i := 25) rfl)) (hw _ (List.mem_of_getElem? (i := 5) rfl)) (by decide) (by decide)) q18a q18c (g := (mkF m 107 #[.val (.long q0), .second, .val (.long q1), .second, .val (.int p2), .val (.long (q1 &&& (4611686018427387903 : Int64))), .second, .val (.long ((q1 &&& (4611686018427387903 : Int64)) / (10 : Int64))), .second, .val (.long ((q1 &&& (4611686018427387903 : Int64)) - ((q1 &&& (4611686018427387903 : Int64)) / (10 : Int64)) * (10 : Int64))), .second, .val (.long gb), .second, .val (.int ex), .val (.ref b16)] [(.ref b16)])) rfl (by rw [hml]; rfl) (Steps.refl _) (argsL := []) (rest := []) (lenOf pd_2 rfl) rfl (by show 2 * 0 + _ ≤ _; exact Nat.le_of_eq rfl) (hb hby at_107) (fun _ _ => ⟨rfl, rfl, (by decide : 1 + 0 ≤ _), (by decide : 2 + 0 ≤ _)⟩)
    dsimp only [Pt.U, Pt.locs, Pt.cells, Pt.slots] at X18 l18 y18 z18 st18 hQ18
    subst l18 y18 z18
    obtain ⟨rfl, N18q, e18⟩ := hQ18
    have N18 := Fr.app N17 N18q
    obtain ⟨fs, hr, hrun, hended, hW, hsame⟩ := X18.leave (v := some (.int (1 : Int32))) (fun h => by rw [Bd.returns] at h; cases h)
    refine ⟨_, _, pre15 _ ?_, hrun, hended, _, _, rfl, ?_, ⟨_, rfl⟩, hW, hsame.mono (by decide) (by decide)⟩
    · show Steps p.tables e below (T10.setTop (mkF m 90 #[.val (.long q0), .second, .val (.long q1), .second, .val (.int p2), .val (.long (q1 &&& (4611686018427387903 : Int64))), .second, .val (.long ((q1 &&& (4611686018427387903 : Int64)) / (10 : Int64))), .second, .val (.long ((q1 &&& (4611686018427387903 : Int64)) - ((q1 &&& (4611686018427387903 : Int64)) / (10 : Int64)) * (10 : Int64))), .second, .val (.long gb), .second, .val (.long ((((p2 >>> ((1 : Int32) &&& 31)) &&& (3 : Int32)) - (1 : Int32)).toInt64)), .second] [(.int ex)])) _
      refine XS.istore X10.here hx rfl (hb hby at_90) rfl (l' := #[.val (.long q0), .second, .val (.long q1), .second, .val (.int p2), .val (.long (q1 &&& (4611686018427387903 : Int64))), .second, .val (.long ((q1 &&& (4611686018427387903 : Int64)) / (10 : Int64))), .second, .val (.long ((q1 &&& (4611686018427387903 : Int64)) - ((q1 &&& (4611686018427387903 : Int64)) / (10 : Int64)) * (10 : Int64))), .second, .val (.long gb), .second, .val (.int ex), .unset]) rfl ?_
      show Steps p.tables e below (T10.setTop (mkF m 92 #[.val (.long q0), .second, .val (.long q1), .second, .val (.int p2), .val (.long (q1 &&& (4611686018427387903 : Int64))), .second, .val (.long ((q1 &&& (4611686018427387903 : Int64)) / (10 : Int64))), .second, .val (.long ((q1 &&& (4611686018427387903 : Int64)) - ((q1 &&& (4611686018427387903 : Int64)) / (10 : Int64)) * (10 : Int64))), .second, .val (.long gb), .second, .val (.int ex), .unset] [])) _
      refine st16 _ ?_
      show Steps p.tables e below (T16.setTop (mkF m 95 #[.val (.long q0), .second, .val (.long q1), .second, .val (.int p2), .val (.long (q1 &&& (4611686018427387903 : Int64))), .second, .val (.long ((q1 &&& (4611686018427387903 : Int64)) / (10 : Int64))), .second, .val (.long ((q1 &&& (4611686018427387903 : Int64)) - ((q1 &&& (4611686018427387903 : Int64)) / (10 : Int64)) * (10 : Int64))), .second, .val (.long gb), .second, .val (.int ex), .unset] [(.ref b16)])) _
      refine XS.dup X16.here hx rfl (hb hby at_95) rfl rfl ?_
      show Steps p.tables e below (T16.setTop (mkF m 96 #[.val (.long q0), .second, .val (.long q1), .second, .val (.int p2), .val (.long (q1 &&& (4611686018427387903 : Int64))), .second, .val (.long ((q1 &&& (4611686018427387903 : Int64)) / (10 : Int64))), .second, .val (.long ((q1 &&& (4611686018427387903 : Int64)) - ((q1 &&& (4611686018427387903 : Int64)) / (10 : Int64)) * (10 : Int64))), .second, .val (.long gb), .second, .val (.int ex), .unset] [(.ref b16), (.ref b16)])) _
      refine XS.lload X16.here hx rfl (hb hby at_96) rfl ?_
      show Steps p.tables e below (T16.setTop (mkF m 98 #[.val (.long q0), .second, .val (.long q1), .second, .val (.int p2), .val (.long (q1 &&& (4611686018427387903 : Int64))), .second, .val (.long ((q1 &&& (4611686018427387903 : Int64)) / (10 : Int64))), .second, .val (.long ((q1 &&& (4611686018427387903 : Int64)) - ((q1 &&& (4611686018427387903 : Int64)) / (10 : Int64)) * (10 : Int64))), .second, .val (.long gb), .second, .val (.int ex), .unset] [(.long gb), (.ref b16), (.ref b16)])) _
      refine XS.lload X16.here hx rfl (hb hby at_98) rfl ?_
      show Steps p.tables e below (T16.setTop (mkF m 100 #[.val (.long q0), .second, .val (.long q1), .second, .val (.int p2), .val (.long (q1 &&& (4611686018427387903 : Int64))), .second, .val (.long ((q1 &&& (4611686018427387903 : Int64)) / (10 : Int64))), .second, .val (.long ((q1 &&& (4611686018427387903 : Int64)) - ((q1 &&& (4611686018427387903 : Int64)) / (10 : Int64)) * (10 : Int64))), .second, .val (.long gb), .second, .val (.int ex), .unset] [(.long (q1 &&& (4611686018427387903 : Int64))), (.long gb), (.ref b16), (.ref b16)])) _
      refine st17.trans ?_
      show Steps p.tables e below (T17.setTop (mkF m 103 #[.val (.long q0), .second, .val (.long q1), .second, .val (.int p2), .val (.long (q1 &&& (4611686018427387903 : Int64))), .second, .val (.long ((q1 &&& (4611686018427387903 : Int64)) / (10 : Int64))), .second, .val (.long ((q1 &&& (4611686018427387903 : Int64)) - ((q1 &&& (4611686018427387903 : Int64)) / (10 : Int64)) * (10 : Int64))), .second, .val (.long gb), .second, .val (.int ex), .unset] [(.ref b16)])) _
      refine XS.astore X17.here hx rfl (hb hby at_103) rfl rfl (l' := #[.val (.long q0), .second, .val (.long q1), .second, .val (.int p2), .val (.long (q1 &&& (4611686018427387903 : Int64))), .second, .val (.long ((q1 &&& (4611686018427387903 : Int64)) / (10 : Int64))), .second, .val (.long ((q1 &&& (4611686018427387903 : Int64)) - ((q1 &&& (4611686018427387903 : Int64)) / (10 : Int64)) * (10 : Int64))), .second, .val (.long gb), .second, .val (.int ex), .val (.ref b16)]) rfl ?_
      show Steps p.tables e below (T17.setTop (mkF m 105 #[.val (.long q0), .second, .val (.long q1), .second, .val (.int p2), .val (.long (q1 &&& (4611686018427387903 : Int64))), .second, .val (.long ((q1 &&& (4611686018427387903 : Int64)) / (10 : Int64))), .second, .val (.long ((q1 &&& (4611686018427387903 : Int64)) - ((q1 &&& (4611686018427387903 : Int64)) / (10 : Int64)) * (10 : Int64))), .second, .val (.long gb), .second, .val (.int ex), .val (.ref b16)] [])) _
      refine XS.aload X17.here hx rfl (hb hby at_105) rfl rfl ?_
      show Steps p.tables e below (T17.setTop (mkF m 107 #[.val (.long q0), .second, .val (.long q1), .second, .val (.int p2), .val (.long (q1 &&& (4611686018427387903 : Int64))), .second, .val (.long ((q1 &&& (4611686018427387903 : Int64)) / (10 : Int64))), .second, .val (.long ((q1 &&& (4611686018427387903 : Int64)) - ((q1 &&& (4611686018427387903 : Int64)) / (10 : Int64)) * (10 : Int64))), .second, .val (.long gb), .second, .val (.int ex), .val (.ref b16)] [(.ref b16)])) _
      refine st18.trans ?_
      show Steps p.tables e below (T18.setTop (mkF m 110 #[.val (.long q0), .second, .val (.long q1), .second, .val (.int p2), .val (.long (q1 &&& (4611686018427387903 : Int64))), .second, .val (.long ((q1 &&& (4611686018427387903 : Int64)) / (10 : Int64))), .second, .val (.long ((q1 &&& (4611686018427387903 : Int64)) - ((q1 &&& (4611686018427387903 : Int64)) / (10 : Int64)) * (10 : Int64))), .second, .val (.long gb), .second, .val (.int ex), .val (.ref b16)] [(.int (worthV gb (q1 &&& (4611686018427387903 : Int64))))])) _
      refine XS.iload X18.here hx rfl (hb hby at_110) rfl ?_
      show Steps p.tables e below (T18.setTop (mkF m 112 #[.val (.long q0), .second, .val (.long q1), .second, .val (.int p2), .val (.long (q1 &&& (4611686018427387903 : Int64))), .second, .val (.long ((q1 &&& (4611686018427387903 : Int64)) / (10 : Int64))), .second, .val (.long ((q1 &&& (4611686018427387903 : Int64)) - ((q1 &&& (4611686018427387903 : Int64)) / (10 : Int64)) * (10 : Int64))), .second, .val (.long gb), .second, .val (.int ex), .val (.ref b16)] [(.int ex), (.int (worthV gb (q1 &&& (4611686018427387903 : Int64))))])) _
      refine XS.icmpNo X18.here hx rfl (hb hby at_112) rfl (teq (show (worthV gb (q1 &&& (4611686018427387903 : Int64))) = ex from (by rw [hex, hgb]; exact own_law _ _ (own_mask62 q1).1 (own_mask62 q1).2 (own_max _ _ (own_mask62 q1).1 (own_mask62 q1).2 (own_delta p2).1 (own_delta p2).2).1 (own_max _ _ (own_mask62 q1).1 (own_mask62 q1).2 (own_delta p2).1 (own_delta p2).2).2))).2 ?_
      show Steps p.tables e below (T18.setTop (mkF m 115 #[.val (.long q0), .second, .val (.long q1), .second, .val (.int p2), .val (.long (q1 &&& (4611686018427387903 : Int64))), .second, .val (.long ((q1 &&& (4611686018427387903 : Int64)) / (10 : Int64))), .second, .val (.long ((q1 &&& (4611686018427387903 : Int64)) - ((q1 &&& (4611686018427387903 : Int64)) / (10 : Int64)) * (10 : Int64))), .second, .val (.long gb), .second, .val (.int ex), .val (.ref b16)] [])) _
      refine XS.iconst X18.here hx rfl (hb hby at_115) ?_
      show Steps p.tables e below (T18.setTop (mkF m 116 #[.val (.long q0), .second, .val (.long q1), .second, .val (.int p2), .val (.long (q1 &&& (4611686018427387903 : Int64))), .second, .val (.long ((q1 &&& (4611686018427387903 : Int64)) / (10 : Int64))), .second, .val (.long ((q1 &&& (4611686018427387903 : Int64)) - ((q1 &&& (4611686018427387903 : Int64)) / (10 : Int64)) * (10 : Int64))), .second, .val (.long gb), .second, .val (.int ex), .val (.ref b16)] [(.int (1 : Int32))])) _
      refine XS.goto X18.here hx rfl (pc0 := 116) (pc' := 120) rfl (hb hby at_116) (by decide) (by decide) ?_
      show Steps p.tables e below (T18.setTop (mkF m 120 #[.val (.long q0), .second, .val (.long q1), .second, .val (.int p2), .val (.long (q1 &&& (4611686018427387903 : Int64))), .second, .val (.long ((q1 &&& (4611686018427387903 : Int64)) / (10 : Int64))), .second, .val (.long ((q1 &&& (4611686018427387903 : Int64)) - ((q1 &&& (4611686018427387903 : Int64)) / (10 : Int64)) * (10 : Int64))), .second, .val (.long gb), .second, .val (.int ex), .val (.ref b16)] [(.int (1 : Int32))])) _
      exact retN X18 hx (t := .boolean) Bd.returns (by simp) (hb hby at_120) hr
    · show Q0 h0 n0 _ T18.heap _
      rw [e18]
      exact ⟨rfl, N18⟩
set_option maxRecDepth 65536 in
set_option maxHeartbeats 40000000 in
theorem comes_1 {Post : Tables → Env → Array Value → State → Outcome → State → Prop} (hpost : ∀ tb e args s v u, (limb_1_1.after args s (.returned v) u = true ∧ limb_1_2.after args s (.returned v) u = true ∧ True) → FrameEnd s (.returned v) u (Jvm.fieldLocs frame_1_writes args s ++ Jvm.arrayLocs frame_1_arrays args s ++ Jvm.staticLocs frame_1_statics s) 16 128 → Post tb e args s (.returned v) u) :
    ArmFor flags0 classFile x code maxLocals ret World_1 tables_1 room_1 Calls_1 rest_1 Pre_1 Post := by
  intro l hfl _ _ p e ha hc hk s m args below hf hA hF happ hP
  obtain ⟨hcalls, hrest, hpre⟩ := hP
  obtain ⟨-, -, -, hnamed, -, -, -, hat⟩ := (Spec.applies_iff hf).mp happ
  obtain ⟨hg, hn⟩ := and_e (Cond.before_iff.mp (show (Jvm.Cond.and given_1 narrow_1).before args s = true from hpre))
  obtain ⟨hcnt, hg1⟩ := and_e hg
  obtain ⟨ha0, hg2⟩ := and_e hg1
  obtain ⟨ha1, hg3⟩ := and_e hg2
  have ha2 := hg3
  obtain ⟨w0, w1, w2, rfl⟩ : ∃ w0 w1 w2 : Value, args = #[w0, w1, w2] := by
    have hs : args.size = 3 := by simpa [Cond.value, given_1] using hcnt
    obtain ⟨L⟩ := args
    match L, hs with
    | [w0, w1, w2], _ => exact ⟨w0, w1, w2, rfl⟩
  have hw := fun d (hd : d ∈ tables_1) => atoms_spec (ws := Jvm.Cond.code x code maxLocals ret :: tables_1) hat d (List.mem_cons_of_mem _ hd)
  have hfit : Fit s := fun {y c} hc i hi => by
    obtain ⟨ha, rfl⟩ := Array.getElem?_eq_some_iff.mp hc
    have q := List.all_eq_true.mp ((Array.all_eq_true_iff_forall_mem.mp hF) _ (Array.getElem_mem ha)) i (List.mem_range.mpr hi)
    simpa [Array.getElem?_eq_getElem hi] using q
  obtain ⟨i0, ei0⟩ := isL_v ha0
  obtain rfl : w0 = (.long i0) := Option.some.inj ei0
  obtain ⟨i1, ei1⟩ := isL_v ha1
  obtain rfl : w1 = (.long i1) := Option.some.inj ei1
  obtain ⟨i2, ei2⟩ := is_v ha2
  obtain rfl : w2 = (.int i2) := Option.some.inj ei2
  obtain ⟨n, o, h1, h2, h3, _, L, rfl, ⟨rfl, N⟩, hq⟩ := rm0 l s _ hw tables_1 i0 i1 i2 s.heap s.heap.size (Nat.le_refl _) p e ha hc hk s m _ below hf ((Spec.applies_iff_loose hf).mp happ).1 ⟨rfl, State.Warmed39.refl s, rfl⟩ trivial
  refine ⟨n, _, h1, h2, h3, hpost _ _ _ _ _ _ ⟨Cond.after_iff.mpr rfl, Cond.after_iff.mpr (eq_i res_at (Term.int_eval (1)) rfl), trivial⟩ ⟨hq.1, hq.2.1, (hq.2.2.sift fun y hy => Or.inr (N y hy)).mono (by decide) (by decide)⟩⟩
theorem main_1_1 : Claimed_1_1 := comes_1 fun _ _ _ _ _ _ h hF => ⟨h.1, hF⟩
theorem main_1_2 : Claimed_1_2 := comes_1 fun _ _ _ _ _ _ h hF => ⟨h.2.1, hF⟩
end Jvm.Pilot.@@N@@
namespace Jvm.Pilot.@@N@@
open Jvm Jvm.ClassFile Sem Op Lib Jvm.Free Jvm.Stand Jvm.Pilot.@@N@@.Jvm.D
/-! MADE BY PROGRAM (witnessworld.py) out of the Statement's table words and the real class files: 11 classes; the members and pool entries that the words name. The judged class is class 1, her method 1. -/
namespace start1
open Jvm.ClassFile
def u (s : String) : CpInfo := .utf8 (stringToUtf16 s)
/-- a pool by its gaps: so many unusable entries, then the entry; so many at the end -/
def gap : Nat → List CpInfo → List CpInfo
  | 0, r => r
  | n + 1, r => .unusable :: gap n r
def poolList (es : List (Nat × CpInfo)) (last : Nat) : List CpInfo := es.foldr (fun e r => gap e.1 (e.2 :: r)) (gap last [])
def pool (es : List (Nat × CpInfo)) (last : Nat) : Array CpInfo := ⟨poolList es last⟩
def fileOf (pool : Array CpInfo) (this : Nat) (attrs : Array Attribute := #[]) (ms : Array MethodInfo := #[]) (fl : Nat := 33) (sup : Nat := 0) (ifs : Array Nat := #[]) (fds : Array FieldInfo := #[]) : ClassFile where
  minorVersion := 0
  majorVersion := 65
  constantPool := pool
  accessFlags := fl
  thisClass := this
  superClass := sup
  interfaces := ifs
  fields := fds
  methods := ms
  attributes := attrs
def plain (name : String) (sup : Option ClassId) : Class where
  name := name
  kind := .ordinary
  loader := none
  accessFlags := 33
  super := sup
  interfaces := #[]
  cf := none
  fields := #[]
  methods := #[]
  instanceTypes := #[]
  staticTypes := #[]
  resolved := #[]
  callSites := []
  init := .initialized
  statics := none
  mirror := none

def pool0 : Array CpInfo := pool [(5, u "<init>"), (0, u "()V"), (1, .class_ 10), (1, u "java/lang/Object")] 113

def k0c0 : Code := { maxStack := 0, maxLocals := 1, code := object_method_1_code, exceptionTable := #[], attributes := #[] }
def k0m0 : Method := { name := "<init>", desc := "()V", sig := { parameters := [], returnType := none }, accessFlags := 1, code := some k0c0 }
/-- java/lang/Object -/
def k0 : Class := { plain "java/lang/Object" none with
  accessFlags := 33
  interfaces := #[]
  cf := some (fileOf pool0 8 #[] #[{ accessFlags := 1, nameIndex := 5, descriptorIndex := 6, attributes := #[] }] 33 0 #[] #[])
  fields := #[]
  methods := #[k0m0]
  instanceTypes := #[]
  staticTypes := #[]
  resolved := Array.replicate 124 none
  statics := none }

def pool1 : Array CpInfo := pool [(2, .class_ 4), (1, u "java/lang/Object"), (0, u "<init>"), (0, u "()V"), (0, .long 4611686018427387903), (1, .long 10), (1, .long 576460752303423487), (1, .methodref 14 15), (0, .class_ 16), (0, .nameAndType 17 18), (0, u "java/lang/Math"), (0, u "max"), (0, u "(JJ)J"), (0, .class_ 20), (0, u "com/example/heartwood/heartwood/store/GarbageEstimate"), (0, .methodref 19 22), (0, .nameAndType 5 23), (0, u "(JJ)V"), (0, .methodref 19 25), (0, .nameAndType 26 27), (0, u "worthACycle"), (0, u "()Z"), (0, .class_ 29), (0, u "com/example/heartwood/heartwood/store/GarbageEstimateWorthACyclePinLaw"), (2, u "law"), (0, u "(JJI)Z")] 3

def k1m0 : Method := { name := "<init>", desc := "()V", sig := { parameters := [], returnType := none }, accessFlags := 1, code := none }
def k1c1 : Code := { maxStack := 6, maxLocals := 15, code := code, exceptionTable := #[], attributes := #[] }
def k1m1 : Method := { name := "law", desc := "(JJI)Z", sig := { parameters := [.long, .long, .int], returnType := some .boolean }, accessFlags := 9, code := some k1c1 }
/-- com/example/heartwood/heartwood/store/GarbageEstimateWorthACyclePinLaw -/
def k1 : Class := { plain "com/example/heartwood/heartwood/store/GarbageEstimateWorthACyclePinLaw" (some 0) with
  accessFlags := 49
  interfaces := #[]
  cf := some (fileOf pool1 28 #[] #[{ accessFlags := 1, nameIndex := 5, descriptorIndex := 6, attributes := #[] }, { accessFlags := 9, nameIndex := 32, descriptorIndex := 33, attributes := #[] }] 49 2 #[] #[])
  fields := #[]
  methods := #[k1m0, k1m1]
  instanceTypes := #[]
  staticTypes := #[]
  resolved := Array.replicate 37 none
  statics := none }

def pool2 : Array CpInfo := pool [(1, .methodref 2 3), (0, .class_ 4), (0, .nameAndType 5 6), (0, u "java/lang/Object"), (0, u "<init>"), (0, u "()V"), (0, .class_ 8), (0, u "java/lang/Record")] 13

def k2c0 : Code := { maxStack := 1, maxLocals := 1, code := jdk_30_method_1_code, exceptionTable := #[], attributes := #[] }
def k2m0 : Method := { name := "<init>", desc := "()V", sig := { parameters := [], returnType := none }, accessFlags := 4, code := some k2c0 }
/-- java/lang/Record -/
def k2 : Class := { plain "java/lang/Record" (some 0) with
  accessFlags := 1057
  interfaces := #[]
  cf := some (fileOf pool2 7 #[] #[{ accessFlags := 4, nameIndex := 5, descriptorIndex := 6, attributes := #[] }] 1057 2 #[] #[])
  fields := #[]
  methods := #[k2m0]
  instanceTypes := #[]
  staticTypes := #[]
  resolved := Array.replicate 22 none
  statics := none }

def pool3 : Array CpInfo := pool [(1, .methodref 2 3), (0, .class_ 4), (0, .nameAndType 5 6), (0, u "java/lang/Record"), (0, u "<init>"), (0, u "()V"), (0, .fieldref 8 9), (0, .class_ 10), (0, .nameAndType 11 12), (0, u "com/example/heartwood/heartwood/store/GarbageEstimate"), (0, u "garbage"), (0, u "J"), (0, .fieldref 8 14), (0, .nameAndType 15 12), (0, u "size"), (0, .long 10), (13, u "(JJ)V"), (3, u "worthACycle"), (0, u "()Z")] 26

def k3c0 : Code := { maxStack := 3, maxLocals := 5, code := prog_22_method_1_code, exceptionTable := #[], attributes := #[] }
def k3m0 : Method := { name := "<init>", desc := "(JJ)V", sig := { parameters := [.long, .long], returnType := none }, accessFlags := 1, code := some k3c0 }
def k3c1 : Code := { maxStack := 4, maxLocals := 1, code := prog_22_method_2_code, exceptionTable := #[], attributes := #[] }
def k3m1 : Method := { name := "worthACycle", desc := "()Z", sig := { parameters := [], returnType := some .boolean }, accessFlags := 1, code := some k3c1 }
/-- com/example/heartwood/heartwood/store/GarbageEstimate -/
def k3 : Class := { plain "com/example/heartwood/heartwood/store/GarbageEstimate" (some 2) with
  accessFlags := 49
  interfaces := #[]
  cf := some (fileOf pool3 8 #[] #[{ accessFlags := 1, nameIndex := 5, descriptorIndex := 30, attributes := #[] }, { accessFlags := 1, nameIndex := 34, descriptorIndex := 35, attributes := #[] }] 49 2 #[] #[{ accessFlags := 18, nameIndex := 11, descriptorIndex := 12, attributes := #[] }, { accessFlags := 18, nameIndex := 15, descriptorIndex := 12, attributes := #[] }])
  fields := #[{ name := "garbage", type := .long, accessFlags := 18, slot := 0, constantValue := 0 }, { name := "size", type := .long, accessFlags := 18, slot := 1, constantValue := 0 }]
  methods := #[k3m0, k3m1]
  instanceTypes := #[.long, .long]
  staticTypes := #[]
  resolved := Array.replicate 62 none
  statics := none }

def pool4 : Array CpInfo := pool [(1, .class_ 2), (0, u "java/lang/Math"), (1, .class_ 6), (1, u "java/lang/Object"), (0, u "<init>"), (0, u "()V"), (89, .class_ 100), (1, u "java/lang/Math$RandomNumberGeneratorHolder"), (20, u "(JJ)J"), (50, u "negativeZeroFloatBits"), (0, u "J"), (2, u "negativeZeroDoubleBits"), (21, u "max"), (46, u "$assertionsDisabled"), (0, u "Z"), (91, u "twoToTheDoubleScaleDown"), (0, u "D"), (4, u "twoToTheDoubleScaleUp"), (9, u "E"), (3, u "PI"), (2, u "TAU"), (2, u "DEGREES_TO_RADIANS"), (0, u "RADIANS_TO_DEGREES")] 94

def k4m0 : Method := { name := "<init>", desc := "()V", sig := { parameters := [], returnType := none }, accessFlags := 2, code := none }
def k4c1 : Code := { maxStack := 4, maxLocals := 4, code := jdk_29_method_66_code, exceptionTable := #[], attributes := #[] }
def k4m1 : Method := { name := "max", desc := "(JJ)J", sig := { parameters := [.long, .long], returnType := some .long }, accessFlags := 9, code := some k4c1 }
/-- java/lang/Math -/
def k4 : Class := { plain "java/lang/Math" (some 0) with
  accessFlags := 49
  interfaces := #[]
  cf := some (fileOf pool4 1 #[.nestMembers #[98]] #[{ accessFlags := 2, nameIndex := 7, descriptorIndex := 8, attributes := #[] }, { accessFlags := 9, nameIndex := 198, descriptorIndex := 121, attributes := #[] }] 49 4 #[] #[{ accessFlags := 25, nameIndex := 354, descriptorIndex := 339, attributes := #[] }, { accessFlags := 25, nameIndex := 358, descriptorIndex := 339, attributes := #[] }, { accessFlags := 25, nameIndex := 361, descriptorIndex := 339, attributes := #[] }, { accessFlags := 26, nameIndex := 364, descriptorIndex := 339, attributes := #[] }, { accessFlags := 26, nameIndex := 365, descriptorIndex := 339, attributes := #[] }, { accessFlags := 26, nameIndex := 172, descriptorIndex := 173, attributes := #[] }, { accessFlags := 26, nameIndex := 176, descriptorIndex := 173, attributes := #[] }, { accessFlags := 8, nameIndex := 344, descriptorIndex := 339, attributes := #[] }, { accessFlags := 8, nameIndex := 338, descriptorIndex := 339, attributes := #[] }, { accessFlags := 4120, nameIndex := 245, descriptorIndex := 246, attributes := #[] }])
  fields := #[{ name := "E", type := .double, accessFlags := 25, slot := 0, constantValue := 0 }, { name := "PI", type := .double, accessFlags := 25, slot := 1, constantValue := 0 }, { name := "TAU", type := .double, accessFlags := 25, slot := 2, constantValue := 0 }, { name := "DEGREES_TO_RADIANS", type := .double, accessFlags := 26, slot := 3, constantValue := 0 }, { name := "RADIANS_TO_DEGREES", type := .double, accessFlags := 26, slot := 4, constantValue := 0 }, { name := "negativeZeroFloatBits", type := .long, accessFlags := 26, slot := 5, constantValue := 0 }, { name := "negativeZeroDoubleBits", type := .long, accessFlags := 26, slot := 6, constantValue := 0 }, { name := "twoToTheDoubleScaleUp", type := .double, accessFlags := 8, slot := 7, constantValue := 0 }, { name := "twoToTheDoubleScaleDown", type := .double, accessFlags := 8, slot := 8, constantValue := 0 }, { name := "$assertionsDisabled", type := .boolean, accessFlags := 4120, slot := 9, constantValue := 0 }]
  methods := #[k4m0, k4m1]
  instanceTypes := #[]
  staticTypes := #[.double, .double, .double, .double, .double, .long, .long, .double, .double, .boolean]
  resolved := Array.replicate 460 none
  statics := none }

def pool5 : Array CpInfo := pool [(1, u "java/lang/Cloneable"), (0, .class_ 1), (0, u "java/lang/Object"), (0, .class_ 3)] 3

/-- java/lang/Cloneable -/
def k5 : Class := { plain "java/lang/Cloneable" (some 0) with
  accessFlags := 1537
  interfaces := #[]
  cf := some (fileOf pool5 2 #[] #[] 1537 4 #[] #[])
  fields := #[]
  methods := #[]
  instanceTypes := #[]
  staticTypes := #[]
  resolved := Array.replicate 8 none
  statics := none }

def pool6 : Array CpInfo := pool [(1, u "java/io/Serializable"), (0, .class_ 1), (0, u "java/lang/Object"), (0, .class_ 3)] 3

/-- java/io/Serializable -/
def k6 : Class := { plain "java/io/Serializable" (some 0) with
  accessFlags := 1537
  interfaces := #[]
  cf := some (fileOf pool6 2 #[] #[] 1537 4 #[] #[])
  fields := #[]
  methods := #[]
  instanceTypes := #[]
  staticTypes := #[]
  resolved := Array.replicate 8 none
  statics := none }

/-- the primitive byte -/
def k7 : Class := { plain "byte" none with kind := .primitive 'B', accessFlags := 0x411 }
/-- [B -/
def k8 : Class := { plain "[B" (some 0) with kind := .array 7 .byte, interfaces := #[5, 6], accessFlags := 1041 }

/-- the primitive int -/
def k9 : Class := { plain "int" none with kind := .primitive 'I', accessFlags := 0x411 }
/-- [I -/
def k10 : Class := { plain "[I" (some 0) with kind := .array 9 .int, interfaces := #[5, 6], accessFlags := 1041 }

def heap : Heap := #[]
def classes : Array Class := #[k0, k1, k2, k3, k4, k5, k6, k7, k8, k9, k10]
def interned : List (Array UInt16 × Addr) := []
def slotsUsed : Nat := 0
def theMethod : MethodId := ⟨1, 1⟩
def args0 : Array Value := #[.long 5, .long 300, .int 7]
def aboutOver (below : List Frame) : State where
  vm := { classes := classes, interned := interned.toArray }
  heap := heap
  slotsUsed := slotsUsed
  threads := #[{ frames := .invoking theMethod args0 :: below }]
def below0 : List Frame := [.native { method := ⟨0, 0⟩, args := #[] }]
def about1 : State := aboutOver below0
def p0 : Program := .bare "" "" ""
def e0 : Env := launch0.env 0 0 0
theorem w_frames : about1.frames = Frame.invoking theMethod args0 :: below0 := rfl
set_option maxRecDepth 65536 in
theorem w_args : argsFit about1.vm theMethod args0 = true := by decide +kernel
set_option maxRecDepth 65536 in
theorem w_heap : heapFits about1 = true := by decide +kernel
set_option maxRecDepth 65536 in
theorem w_runnable : about1.curStatus? = some .runnable := by decide +kernel
set_option maxRecDepth 65536 in
theorem w_alone : about1.alone = true := by decide +kernel
set_option maxRecDepth 65536 in
theorem w_named : about1.methodNamed? x = some theMethod := by decide +kernel
set_option maxRecDepth 65536 in
theorem w_hears : about1.hears theMethod below0 = true := by decide +kernel
set_option maxRecDepth 65536 in
theorem w_ripe : about1.ripe theMethod args0 below0 = true := by decide +kernel
theorem w_running : about1.status = .running := rfl
set_option maxRecDepth 65536 in
theorem w_room : about1.hasRoom e0.platform room_1 = true :=
  launch0.hasRoom_least _ room_1 (by decide +kernel) (by decide +kernel) (by decide +kernel) (by decide +kernel) (by decide +kernel) (by decide +kernel)
theorem allAtoms_all (ts : List Jvm.Cond) (a : Array Jvm.Value) (st : Jvm.State) : (allAtoms ts).before a st = ts.all (fun c => c.before a st) := by
  induction ts with
  | nil => rfl
  | cons c t ih =>
    show (Jvm.Cond.and c (allAtoms t)).before a st = _
    rw [Jvm.Cond.before_and, ih, List.all_cons]
def words1 : List Jvm.Cond := Jvm.Cond.code x code maxLocals ret :: tables_1
/-- a 'code' word, met by the world's own term for the bytes: nothing is compared byte by byte -/
theorem code_word {y : MethodName} {bytes : ByteArray} {mx : Nat} {rt : Option FieldType} {a : Array Value} {s : State} {m : MethodId} {meth : Method} {c : Code} (h1 : s.methodNamed? y = some m) (h2 : s.vm.method? m = some meth) (h3 : meth.code = some c) (h4 : c.code = bytes)
    (h5 : (c.maxLocals == mx && c.exceptionTable.isEmpty && decide (c.maxStack ≤ mostOperands) && decide (meth.sig.returnType = rt) && !meth.locks && decide (parseMethodDescriptor y.desc = some meth.sig)) = true) : (Jvm.Cond.code y bytes mx rt).before a s = true := by
  simp only [Bool.and_eq_true, beq_iff_eq, Bool.not_eq_true', decide_eq_true_eq] at h5
  obtain ⟨⟨⟨⟨⟨g1, g2⟩, g3⟩, g4⟩, g5⟩, g6⟩ := h5
  simp [Cond.before, Cond.holds, Cond.value, h1, h2, h3, h4, g1, g2, g3, g4, g5, g6]
def isCode : Jvm.Cond → Bool
  | .code _ _ _ _ => true
  | _ => false
theorem all_split {L : List Jvm.Cond} {P : Jvm.Cond → Bool} (h1 : L.all (fun c => isCode c || P c) = true) (h2 : ∀ c ∈ L.filter isCode, P c = true) : L.all P = true := by
  refine List.all_eq_true.mpr fun c hc => ?_
  have h := List.all_eq_true.mp h1 c hc
  rcases Bool.eq_false_or_eq_true (isCode c) with hi | hi
  · exact h2 c (List.mem_filter.mpr ⟨hc, hi⟩)
  · simpa [hi] using h
set_option maxRecDepth 65536 in
theorem w_c0 : (Jvm.Cond.code x code maxLocals ret).before args0 about1 = true := code_word (m := ⟨1, 1⟩) (meth := k1m1) (c := k1c1) (by decide +kernel) rfl rfl rfl (by decide +kernel)
set_option maxRecDepth 65536 in
theorem w_c1 : (Jvm.Cond.code ({ cls := "com/example/heartwood/heartwood/store/GarbageEstimate", name := "<init>", desc := "(JJ)V" } : Jvm.MethodName) prog_22_method_1_code (5 : Nat) (Option.none : Option Jvm.ClassFile.FieldType)).before args0 about1 = true := code_word (m := ⟨3, 0⟩) (meth := k3m0) (c := k3c0) (by decide +kernel) rfl rfl rfl (by decide +kernel)
set_option maxRecDepth 65536 in
theorem w_c2 : (Jvm.Cond.code ({ cls := "java/lang/Record", name := "<init>", desc := "()V" } : Jvm.MethodName) jdk_30_method_1_code (1 : Nat) (Option.none : Option Jvm.ClassFile.FieldType)).before args0 about1 = true := code_word (m := ⟨2, 0⟩) (meth := k2m0) (c := k2c0) (by decide +kernel) rfl rfl rfl (by decide +kernel)
set_option maxRecDepth 65536 in
theorem w_c3 : (Jvm.Cond.code ({ cls := "java/lang/Object", name := "<init>", desc := "()V" } : Jvm.MethodName) object_method_1_code (1 : Nat) (Option.none : Option Jvm.ClassFile.FieldType)).before args0 about1 = true := code_word (m := ⟨0, 0⟩) (meth := k0m0) (c := k0c0) (by decide +kernel) rfl rfl rfl (by decide +kernel)
set_option maxRecDepth 65536 in
theorem w_c4 : (Jvm.Cond.code ({ cls := "com/example/heartwood/heartwood/store/GarbageEstimate", name := "worthACycle", desc := "()Z" } : Jvm.MethodName) prog_22_method_2_code (1 : Nat) (Option.some Jvm.ClassFile.FieldType.boolean)).before args0 about1 = true := code_word (m := ⟨3, 1⟩) (meth := k3m1) (c := k3c1) (by decide +kernel) rfl rfl rfl (by decide +kernel)
set_option maxRecDepth 65536 in
theorem w_c5 : (Jvm.Cond.code ({ cls := "java/lang/Math", name := "max", desc := "(JJ)J" } : Jvm.MethodName) jdk_29_method_66_code (4 : Nat) (Option.some Jvm.ClassFile.FieldType.long)).before args0 about1 = true := code_word (m := ⟨4, 1⟩) (meth := k4m1) (c := k4c1) (by decide +kernel) rfl rfl rfl (by decide +kernel)
def codes1 : List Jvm.Cond := [Jvm.Cond.code x code maxLocals ret, Jvm.Cond.code ({ cls := "com/example/heartwood/heartwood/store/GarbageEstimate", name := "<init>", desc := "(JJ)V" } : Jvm.MethodName) prog_22_method_1_code (5 : Nat) (Option.none : Option Jvm.ClassFile.FieldType), Jvm.Cond.code ({ cls := "java/lang/Record", name := "<init>", desc := "()V" } : Jvm.MethodName) jdk_30_method_1_code (1 : Nat) (Option.none : Option Jvm.ClassFile.FieldType), Jvm.Cond.code ({ cls := "java/lang/Object", name := "<init>", desc := "()V" } : Jvm.MethodName) object_method_1_code (1 : Nat) (Option.none : Option Jvm.ClassFile.FieldType), Jvm.Cond.code ({ cls := "com/example/heartwood/heartwood/store/GarbageEstimate", name := "worthACycle", desc := "()Z" } : Jvm.MethodName) prog_22_method_2_code (1 : Nat) (Option.some Jvm.ClassFile.FieldType.boolean), Jvm.Cond.code ({ cls := "java/lang/Math", name := "max", desc := "(JJ)J" } : Jvm.MethodName) jdk_29_method_66_code (4 : Nat) (Option.some Jvm.ClassFile.FieldType.long)]
set_option maxRecDepth 65536 in
theorem codes_eq : words1.filter isCode = codes1 := rfl
theorem w_codes : ∀ c ∈ words1.filter isCode, c.before args0 about1 = true := by
  rw [codes_eq]
  intro c hc
  simp only [codes1, List.mem_cons, List.not_mem_nil, or_false] at hc
  rcases hc with rfl | rfl | rfl | rfl | rfl | rfl
  · exact w_c0
  · exact w_c1
  · exact w_c2
  · exact w_c3
  · exact w_c4
  · exact w_c5
set_option maxRecDepth 65536 in
theorem w_t1 : (words1.take 24).all (fun c => isCode c || c.before args0 about1) = true := by decide +kernel
set_option maxRecDepth 65536 in
theorem w_t2 : (words1.drop 24).all (fun c => isCode c || c.before args0 about1) = true := by decide +kernel
theorem w_tables : (allAtoms (Jvm.Cond.code x code maxLocals ret :: tables_1)).before args0 about1 = true := by
  rw [allAtoms_all]
  show words1.all (fun c => c.before args0 about1) = true
  refine all_split ?_ w_codes
  rw [← List.take_append_drop 24 words1, List.all_append, w_t1, w_t2]
  rfl
set_option maxRecDepth 65536 in
theorem w_case : (Jvm.Cond.and given_1 narrow_1).before args0 about1 = true := by decide +kernel
theorem w_applies : (headSpec (Jvm.Cond.code x code maxLocals ret :: tables_1) room_1).applies x e0.platform about1 = true :=
  (Spec.applies_iff w_frames).mpr ⟨w_running, w_runnable, w_alone, w_named, w_hears, w_ripe, w_room, w_tables⟩
theorem atStart : AtStart classFile x code maxLocals ret World_1 tables_1 room_1 Calls_1 rest_1 Pre_1 launch0 p0 e0 about1 theMethod args0 below0 :=
  ⟨lists_1, trivial, launch0.admits_env _ _ _, launch0.least_env, fairChoices_fair.cas, fairChoices_fair.clock, w_frames, w_args, w_heap, w_applies, trivial, trivial, w_case⟩
end start1
theorem witness_1 : WitnessClaimed_1 := ⟨start1.p0, start1.e0, start1.about1, start1.theMethod, start1.args0, start1.below0, start1.atStart⟩
end Jvm.Pilot.@@N@@
