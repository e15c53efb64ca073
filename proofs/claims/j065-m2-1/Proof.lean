import JvmDerived
import JvmDerived.Pilot.@@N@@Statement
import JvmDerived.Pilot.@@N@@Code
set_option linter.unusedVariables false
set_option linter.unusedSimpArgs false
namespace Jvm.RoadKit
open Sem ClassFile Op Lib Jvm.Stand Jvm.Free Jvm.LawKit
section New
variable {p : Program} {l : Launch} {e : Env} {R : Room} {s : State} {m : MethodId} {args : Array Value} {below : List Frame} {meth : Method} {c : Code} {T : State} {locs : List Loc} {cells slots : Nat}
theorem retI (X : Stand p l e R s m args below meth c T locs cells slots) (hx : p.tables.exec = Jvm.exec) {pc : Nat} {Ls : Array Slot} {z : Int32} {rest : List Value} (hret : meth.sig.returnType = some .int) (hd : decode c.code pc = .ok (.ireturn, 1)) {fs : List Frame}
    (hl : ∀ (f : JFrame) (acts : List Action), f.method = m → f.locked = none → f.entered = [] → (doReturn e (T.setTop f) acts (some (.int z))).1 = T.setFrames fs) : Steps p.tables e below (T.setTop (mkF m pc Ls (.int z :: rest))) (T.setFrames fs) := by
  have hm' : T.vm.method? m = some meth := X.method'
  have hn : narrow .int (.int z) = .int z := rfl
  show Steps p.tables e below (T.setTop { method := m, pc := pc, locals := Ls, stack := _ :: rest, locked := none }) _
  jvm_step X.here [X.here.top, hx, hd, hm', hret, hn]
  first | (intro acts; rw [hl _ acts rfl rfl rfl]) | rw [hl _ _ rfl rfl rfl]
  exact Steps.refl _
end New
end Jvm.RoadKit
namespace Jvm.Pilot.@@N@@
open Jvm Jvm.ClassFile Sem Op Lib Jvm.Free Jvm.Stand Jvm.LawKit Jvm.RoadKit Bundle Jvm.Pilot.@@N@@.Jvm.D
theorem own_side0 {h0 : Heap} {ws : List Addr} : ∀ x ∈ ([] : List Addr), x ∈ ws ∨ h0.size ≤ x := fun _ q => nomatch q
theorem own_side1 {h0 : Heap} {ws : List Addr} {a : Addr} (h : a ∈ ws ∨ h0.size ≤ a) : ∀ x ∈ [a], x ∈ ws ∨ h0.size ≤ x := fun x q => by
  cases List.mem_singleton.mp q; exact h
theorem own_side2 {h0 : Heap} {ws : List Addr} {a b : Addr} (h : a ∈ ws ∨ h0.size ≤ a) (h' : b ∈ ws ∨ h0.size ≤ b) : ∀ x ∈ [a, b], x ∈ ws ∨ h0.size ≤ x := fun x q => by
  rcases List.mem_cons.mp q with rfl | q
  · exact h
  · exact own_side1 h' x q
theorem own_side3 {h0 : Heap} {ws : List Addr} {a b d : Addr} (h : a ∈ ws ∨ h0.size ≤ a) (h' : b ∈ ws ∨ h0.size ≤ b) (h'' : d ∈ ws ∨ h0.size ≤ d) : ∀ x ∈ [a, b, d], x ∈ ws ∨ h0.size ≤ x := fun x q => by
  rcases List.mem_cons.mp q with rfl | q
  · exact h
  · exact own_side2 h' h'' x q
theorem own_notin1 {x a : Addr} (h : x ≠ a) : x ∉ [a] := fun q => h (List.mem_singleton.mp q)
theorem own_notin2 {x a b : Addr} (h : x ≠ a) (h' : x ≠ b) : x ∉ [a, b] := fun q => by
  rcases List.mem_cons.mp q with q | q
  · exact h q
  · exact own_notin1 h' q
theorem own_notin3 {x a b d : Addr} (h : x ≠ a) (h' : x ≠ b) (h'' : x ≠ d) : x ∉ [a, b, d] := fun q => by
  rcases List.mem_cons.mp q with q | q
  · exact h q
  · exact own_notin2 h' h'' q
theorem own_sta_keep1 {Z : State} {h h' : Heap} {C n d K : String} {v : Value} {o : Addr} (F : Sta Z h C n d v) (E : Exa Z h o K) (Q : Keep h h' [o]) : Sta Z h' C n d v := by
  obtain ⟨cf, i, k, f, st, cell, h1, h2, h3, h4, h5, h6, h7⟩ := F
  refine ⟨cf, i, k, f, st, cell, h1, h2, h3, h4, Q.2.1 _ _ h5 (fun q => ?_), h6, h7⟩
  obtain ⟨cell', k', e1, e2, e3, e4, -⟩ := E
  cases List.mem_singleton.mp q
  cases h5.symm.trans e1
  rw [e4] at h6; cases h6
theorem own_lt {n a b : Int32} (h : n < a) (h' : a < b) : n < b := by
  rw [Int32.lt_iff_toInt_lt] at *
  omega
theorem d1_0 : decode prog_73_method_1_code 0 = .ok (.aload_n 0, 1) := by decide +kernel
theorem d1_1 : decode prog_73_method_1_code 1 = .ok (.invokespecial 1, 3) := by decide +kernel
theorem d1_4 : decode prog_73_method_1_code 4 = .ok (.return_, 1) := by decide +kernel
theorem pn_0 : plainName "com/example/trusted_cut/trustedcut/program/Selections" = true := by first | (simp [plainName, overriddenIn]; done) | decide +kernel
theorem ef_1 (m : MethodId) (o0 : Addr) : entryFrame m #[(.ref o0)] 1 = mkF m 0 #[.val (.ref o0)] [] := by first | (simp [entryFrame, mkF, argsToLocals, Value.category]; done) | rfl
def Q1  (h0 : Heap) (n0 : Nat) (v : Option Value) (h : Heap) (L : List Loc) : Prop := v = none ∧ Fr n0 L ∧ h = h0
set_option maxRecDepth 65536 in
set_option maxHeartbeats 40000000 in
theorem rm1 (l : Launch) (Z : State) (a0 : Array Value) (hw : ∀ d ∈ tables_1, d.before a0 Z = true) (ws : List Jvm.Cond) (o0 : Addr) (h0 : Heap) (n0 : Nat) (Z0 : n0 ≤ h0.size)  :
    MetFree l (⟨"com/example/trusted_cut/trustedcut/program/Selections", "<init>", "()V"⟩ : MethodName) (head1 (Jvm.Cond.code (⟨"com/example/trusted_cut/trustedcut/program/Selections", "<init>", "()V"⟩ : MethodName) prog_73_method_1_code 1 none :: ws) ({ frames := 1, cells := 0, slots := 0, locals := 12 } : Room)) (fun a U => a = #[(.ref o0)] ∧ Z.Warmed39 U.vm ∧ U.heap = h0) (fun _ _ _ _ _ => True) (fun _ U o U' => ∃ v L, o = .returned v ∧ Q1 h0 n0 v U'.heap L ∧ FrameEnd U o U' L ({ frames := 1, cells := 0, slots := 0, locals := 12 } : Room).cells ({ frames := 1, cells := 0, slots := 0, locals := 12 } : Room).slots) := by
  refine MetFree.of_bodySF (plainFor_of_name pn_0) hisR ?_
  intro p e s m args below meth c s₁ Bd hml0 hP hK
  obtain ⟨rfl, hZ, hh⟩ := hP
  have hx := Bd.exec
  have hby := Bd.bytes
  have hml : c.maxLocals = 1 := hml0
  have hown : s.vm.findClass "com/example/trusted_cut/trustedcut/program/Selections" = some m.cls := findClass_of_methodNamed Bd.named
  have hnm := (name_of_methodNamed Bd.named Bd.method).1
  have X0 : Stand p l e ({ frames := 1, cells := 0, slots := 0, locals := 12 } : Room) s m #[(.ref o0)] below meth c s₁ [] 0 0 := Stand.of_body Bd
  have e0 : s₁.heap = h0 := by rw [← hh, Bd.state]; rfl
  have N0 := Fr.nil n0
  have pre0 : ∀ t, Steps p.tables e below (s₁.setTop (mkF m 0 #[.val (.ref o0)] [])) t → Steps p.tables e below (s₁.setTop (entryFrame m #[(.ref o0)] 1)) t := fun t k => castTop (ef_1 m o0) k
  obtain ⟨T1, X1, e1, st1⟩ := initO X0 hx hZ hown (hw _ (List.mem_of_getElem? (i := 6) rfl)) (hw _ (List.mem_of_getElem? (i := 7) rfl)) (hw _ (List.mem_of_getElem? (i := 8) rfl)) e0 (g := (mkF m 1 #[.val (.ref o0)] [(.ref o0)])) rfl (by rw [hml]; rfl) rfl (hb hby d1_1) (by decide) (W := 0) (by show 2 * 0 + _ ≤ _; exact Nat.le_of_eq rfl) (by decide)
  obtain ⟨fs, hr, hrun, hended, hW, hsame⟩ := X1.leave (v := none) (fun _ => rfl)
  refine ⟨_, _, pre0 _ ?_, hrun, hended, _, _, rfl, ?_, ⟨_, rfl⟩, hW, hsame.mono (by decide) (by decide)⟩
  · show Steps p.tables e below (s₁.setTop (mkF m 0 #[.val (.ref o0)] [])) _
    refine XS.aloadN X0.here hx rfl (hb hby d1_0) rfl rfl ?_
    show Steps p.tables e below (s₁.setTop (mkF m 1 #[.val (.ref o0)] [(.ref o0)])) _
    refine st1 _ ?_
    show Steps p.tables e below (T1.setTop (mkF m 4 #[.val (.ref o0)] [])) _
    exact X1.returnOut hx Bd.returns (hb hby d1_4) hr
  · show Q1 h0 n0 _ T1.heap _
    rw [e1]
    exact ⟨rfl, N0, rfl⟩
theorem d5_0 : decode jdk_71_method_1_code 0 = .ok (.aload_n 0, 1) := by decide +kernel
theorem d5_1 : decode jdk_71_method_1_code 1 = .ok (.invokespecial 1, 3) := by decide +kernel
theorem d5_4 : decode jdk_71_method_1_code 4 = .ok (.return_, 1) := by decide +kernel
theorem pn_1 : plainName "java/util/AbstractMap" = true := by first | (simp [plainName, overriddenIn]; done) | decide +kernel
theorem ef_5 (m : MethodId) (o0 : Addr) : entryFrame m #[(.ref o0)] 1 = mkF m 0 #[.val (.ref o0)] [] := by first | (simp [entryFrame, mkF, argsToLocals, Value.category]; done) | rfl
def Q5  (h0 : Heap) (n0 : Nat) (v : Option Value) (h : Heap) (L : List Loc) : Prop := v = none ∧ Fr n0 L ∧ h = h0
set_option maxRecDepth 65536 in
set_option maxHeartbeats 40000000 in
theorem rm5 (l : Launch) (Z : State) (a0 : Array Value) (hw : ∀ d ∈ tables_1, d.before a0 Z = true) (ws : List Jvm.Cond) (o0 : Addr) (h0 : Heap) (n0 : Nat) (Z0 : n0 ≤ h0.size)  :
    MetFree l (⟨"java/util/AbstractMap", "<init>", "()V"⟩ : MethodName) (head1 (Jvm.Cond.code (⟨"java/util/AbstractMap", "<init>", "()V"⟩ : MethodName) jdk_71_method_1_code 1 none :: ws) ({ frames := 1, cells := 0, slots := 0, locals := 12 } : Room)) (fun a U => a = #[(.ref o0)] ∧ Z.Warmed39 U.vm ∧ U.heap = h0) (fun _ _ _ _ _ => True) (fun _ U o U' => ∃ v L, o = .returned v ∧ Q5 h0 n0 v U'.heap L ∧ FrameEnd U o U' L ({ frames := 1, cells := 0, slots := 0, locals := 12 } : Room).cells ({ frames := 1, cells := 0, slots := 0, locals := 12 } : Room).slots) := by
  refine MetFree.of_bodySF (plainFor_of_name pn_1) hisR ?_
  intro p e s m args below meth c s₁ Bd hml0 hP hK
  obtain ⟨rfl, hZ, hh⟩ := hP
  have hx := Bd.exec
  have hby := Bd.bytes
  have hml : c.maxLocals = 1 := hml0
  have hown : s.vm.findClass "java/util/AbstractMap" = some m.cls := findClass_of_methodNamed Bd.named
  have hnm := (name_of_methodNamed Bd.named Bd.method).1
  have X0 : Stand p l e ({ frames := 1, cells := 0, slots := 0, locals := 12 } : Room) s m #[(.ref o0)] below meth c s₁ [] 0 0 := Stand.of_body Bd
  have e0 : s₁.heap = h0 := by rw [← hh, Bd.state]; rfl
  have N0 := Fr.nil n0
  have pre0 : ∀ t, Steps p.tables e below (s₁.setTop (mkF m 0 #[.val (.ref o0)] [])) t → Steps p.tables e below (s₁.setTop (entryFrame m #[(.ref o0)] 1)) t := fun t k => castTop (ef_5 m o0) k
  obtain ⟨T1, X1, e1, st1⟩ := initO X0 hx hZ hown (hw _ (List.mem_of_getElem? (i := 28) rfl)) (hw _ (List.mem_of_getElem? (i := 7) rfl)) (hw _ (List.mem_of_getElem? (i := 8) rfl)) e0 (g := (mkF m 1 #[.val (.ref o0)] [(.ref o0)])) rfl (by rw [hml]; rfl) rfl (hb hby d5_1) (by decide) (W := 0) (by show 2 * 0 + _ ≤ _; exact Nat.le_of_eq rfl) (by decide)
  obtain ⟨fs, hr, hrun, hended, hW, hsame⟩ := X1.leave (v := none) (fun _ => rfl)
  refine ⟨_, _, pre0 _ ?_, hrun, hended, _, _, rfl, ?_, ⟨_, rfl⟩, hW, hsame.mono (by decide) (by decide)⟩
  · show Steps p.tables e below (s₁.setTop (mkF m 0 #[.val (.ref o0)] [])) _
    refine XS.aloadN X0.here hx rfl (hb hby d5_0) rfl rfl ?_
    show Steps p.tables e below (s₁.setTop (mkF m 1 #[.val (.ref o0)] [(.ref o0)])) _
    refine st1 _ ?_
    show Steps p.tables e below (T1.setTop (mkF m 4 #[.val (.ref o0)] [])) _
    exact X1.returnOut hx Bd.returns (hb hby d5_4) hr
  · show Q5 h0 n0 _ T1.heap _
    rw [e1]
    exact ⟨rfl, N0, rfl⟩
theorem d8_0 : decode jdk_22_method_1_code 0 = .ok (.aload_n 0, 1) := by decide +kernel
theorem d8_1 : decode jdk_22_method_1_code 1 = .ok (.invokespecial 1, 3) := by decide +kernel
theorem d8_4 : decode jdk_22_method_1_code 4 = .ok (.return_, 1) := by decide +kernel
theorem pn_2 : plainName "java/util/AbstractCollection" = true := by first | (simp [plainName, overriddenIn]; done) | decide +kernel
theorem ef_8 (m : MethodId) (o0 : Addr) : entryFrame m #[(.ref o0)] 1 = mkF m 0 #[.val (.ref o0)] [] := by first | (simp [entryFrame, mkF, argsToLocals, Value.category]; done) | rfl
def Q8  (h0 : Heap) (n0 : Nat) (v : Option Value) (h : Heap) (L : List Loc) : Prop := v = none ∧ Fr n0 L ∧ h = h0
set_option maxRecDepth 65536 in
set_option maxHeartbeats 40000000 in
theorem rm8 (l : Launch) (Z : State) (a0 : Array Value) (hw : ∀ d ∈ tables_1, d.before a0 Z = true) (ws : List Jvm.Cond) (o0 : Addr) (h0 : Heap) (n0 : Nat) (Z0 : n0 ≤ h0.size)  :
    MetFree l (⟨"java/util/AbstractCollection", "<init>", "()V"⟩ : MethodName) (head1 (Jvm.Cond.code (⟨"java/util/AbstractCollection", "<init>", "()V"⟩ : MethodName) jdk_22_method_1_code 1 none :: ws) ({ frames := 1, cells := 0, slots := 0, locals := 12 } : Room)) (fun a U => a = #[(.ref o0)] ∧ Z.Warmed39 U.vm ∧ U.heap = h0) (fun _ _ _ _ _ => True) (fun _ U o U' => ∃ v L, o = .returned v ∧ Q8 h0 n0 v U'.heap L ∧ FrameEnd U o U' L ({ frames := 1, cells := 0, slots := 0, locals := 12 } : Room).cells ({ frames := 1, cells := 0, slots := 0, locals := 12 } : Room).slots) := by
  refine MetFree.of_bodySF (plainFor_of_name pn_2) hisR ?_
  intro p e s m args below meth c s₁ Bd hml0 hP hK
  obtain ⟨rfl, hZ, hh⟩ := hP
  have hx := Bd.exec
  have hby := Bd.bytes
  have hml : c.maxLocals = 1 := hml0
  have hown : s.vm.findClass "java/util/AbstractCollection" = some m.cls := findClass_of_methodNamed Bd.named
  have hnm := (name_of_methodNamed Bd.named Bd.method).1
  have X0 : Stand p l e ({ frames := 1, cells := 0, slots := 0, locals := 12 } : Room) s m #[(.ref o0)] below meth c s₁ [] 0 0 := Stand.of_body Bd
  have e0 : s₁.heap = h0 := by rw [← hh, Bd.state]; rfl
  have N0 := Fr.nil n0
  have pre0 : ∀ t, Steps p.tables e below (s₁.setTop (mkF m 0 #[.val (.ref o0)] [])) t → Steps p.tables e below (s₁.setTop (entryFrame m #[(.ref o0)] 1)) t := fun t k => castTop (ef_8 m o0) k
  obtain ⟨T1, X1, e1, st1⟩ := initO X0 hx hZ hown (hw _ (List.mem_of_getElem? (i := 60) rfl)) (hw _ (List.mem_of_getElem? (i := 7) rfl)) (hw _ (List.mem_of_getElem? (i := 8) rfl)) e0 (g := (mkF m 1 #[.val (.ref o0)] [(.ref o0)])) rfl (by rw [hml]; rfl) rfl (hb hby d8_1) (by decide) (W := 0) (by show 2 * 0 + _ ≤ _; exact Nat.le_of_eq rfl) (by decide)
  obtain ⟨fs, hr, hrun, hended, hW, hsame⟩ := X1.leave (v := none) (fun _ => rfl)
  refine ⟨_, _, pre0 _ ?_, hrun, hended, _, _, rfl, ?_, ⟨_, rfl⟩, hW, hsame.mono (by decide) (by decide)⟩
  · show Steps p.tables e below (s₁.setTop (mkF m 0 #[.val (.ref o0)] [])) _
    refine XS.aloadN X0.here hx rfl (hb hby d8_0) rfl rfl ?_
    show Steps p.tables e below (s₁.setTop (mkF m 1 #[.val (.ref o0)] [(.ref o0)])) _
    refine st1 _ ?_
    show Steps p.tables e below (T1.setTop (mkF m 4 #[.val (.ref o0)] [])) _
    exact X1.returnOut hx Bd.returns (hb hby d8_4) hr
  · show Q8 h0 n0 _ T1.heap _
    rw [e1]
    exact ⟨rfl, N0, rfl⟩
theorem d4_0 : decode jdk_69_method_7_code 0 = .ok (.aload_n 0, 1) := by decide +kernel
theorem d4_1 : decode jdk_69_method_7_code 1 = .ok (.invokespecial 43, 3) := by decide +kernel
theorem d4_4 : decode jdk_69_method_7_code 4 = .ok (.aload_n 0, 1) := by decide +kernel
theorem d4_5 : decode jdk_69_method_7_code 5 = .ok (.ldc 92, 2) := by decide +kernel
theorem d4_7 : decode jdk_69_method_7_code 7 = .ok (.putfield 81, 3) := by decide +kernel
theorem d4_10 : decode jdk_69_method_7_code 10 = .ok (.return_, 1) := by decide +kernel
theorem pn_3 : plainName "java/util/HashMap" = true := by first | (simp [plainName, overriddenIn]; done) | decide +kernel
theorem pd_0 : parseMethodDescriptor "()V" = some ⟨[], none⟩ := by decide +kernel
theorem ef_4 (m : MethodId) (o0 : Addr) : entryFrame m #[(.ref o0)] 1 = mkF m 0 #[.val (.ref o0)] [] := by first | (simp [entryFrame, mkF, argsToLocals, Value.category]; done) | rfl
def Q4 (Z : State) (o0 : Addr) (h0 : Heap) (n0 : Nat) (v : Option Value) (h : Heap) (L : List Loc) : Prop := v = none ∧ Fr n0 L ∧ Keep h0 h [o0] ∧ Exa Z h o0 "java/util/HashMap"
set_option maxRecDepth 65536 in
set_option maxHeartbeats 40000000 in
theorem rm4 (l : Launch) (Z : State) (a0 : Array Value) (hw : ∀ d ∈ tables_1, d.before a0 Z = true) (ws : List Jvm.Cond) (o0 : Addr) (h0 : Heap) (n0 : Nat) (Z0 : n0 ≤ h0.size) (Eo : Exa Z h0 o0 "java/util/HashMap") (Fl : Fld Z h0 o0 "java/util/HashMap" "loadFactor" "F" (.float 0)) (g_o0 : n0 ≤ o0) :
    MetFree l (⟨"java/util/HashMap", "<init>", "()V"⟩ : MethodName) (head1 (Jvm.Cond.code (⟨"java/util/HashMap", "<init>", "()V"⟩ : MethodName) jdk_69_method_7_code 1 none :: ws) ({ frames := 2, cells := 0, slots := 0, locals := 24 } : Room)) (fun a U => a = #[(.ref o0)] ∧ Z.Warmed39 U.vm ∧ U.heap = h0) (fun _ _ _ _ _ => True) (fun _ U o U' => ∃ v L, o = .returned v ∧ Q4 Z o0 h0 n0 v U'.heap L ∧ FrameEnd U o U' L ({ frames := 2, cells := 0, slots := 0, locals := 24 } : Room).cells ({ frames := 2, cells := 0, slots := 0, locals := 24 } : Room).slots) := by
  refine MetFree.of_bodySF (plainFor_of_name pn_3) hisR ?_
  intro p e s m args below meth c s₁ Bd hml0 hP hK
  obtain ⟨rfl, hZ, hh⟩ := hP
  have hx := Bd.exec
  have hby := Bd.bytes
  have hml : c.maxLocals = 1 := hml0
  have hown : s.vm.findClass "java/util/HashMap" = some m.cls := findClass_of_methodNamed Bd.named
  have hnm := (name_of_methodNamed Bd.named Bd.method).1
  have X0 : Stand p l e ({ frames := 2, cells := 0, slots := 0, locals := 24 } : Room) s m #[(.ref o0)] below meth c s₁ [] 0 0 := Stand.of_body Bd
  have e0 : s₁.heap = h0 := by rw [← hh, Bd.state]; rfl
  have N0 := Fr.nil n0
  have pre0 : ∀ t, Steps p.tables e below (s₁.setTop (mkF m 0 #[.val (.ref o0)] [])) t → Steps p.tables e below (s₁.setTop (entryFrame m #[(.ref o0)] 1)) t := fun t k => castTop (ef_4 m o0) k
  obtain ⟨_, _, ⟨T1, L1, k1, n1⟩, -, X1, ⟨Lc1, hQ1, l1, y1, z1⟩, st1⟩ := X0.specialBack hx (y := (⟨"java/util/AbstractMap", "<init>", "()V"⟩ : MethodName)) rfl hown (mvT hZ (hw _ (List.mem_of_getElem? (i := 22) rfl))) (mvT hZ (hw _ (List.mem_of_getElem? (i := 23) rfl))) (mvT hZ (hw _ (List.mem_of_getElem? (i := 27) rfl))) (by decide) (backOf (W := 0) (rm5 l Z a0 hw [] o0 h0 n0 Z0 ) hZ (hw _ (List.mem_of_getElem? (i := 27) rfl)) (hw _ (List.mem_of_getElem? (i := 26) rfl)) (by decide) (by decide)) (g := (mkF m 1 #[.val (.ref o0)] [(.ref o0)])) rfl (by rw [hml]; rfl) (Steps.refl _) (a := o0) (argsL := []) (rest := []) (lenOf pd_0 rfl) rfl (by show 2 * 0 + _ ≤ _; exact Nat.le_of_eq rfl) (hb hby d4_1) (fun _ _ => ⟨rfl, e0, (by decide : 0 + 0 ≤ _), (by decide : 0 + 0 ≤ _)⟩)
  dsimp only [Pt.U, Pt.locs, Pt.cells, Pt.slots] at X1 l1 y1 z1 st1 hQ1
  subst l1 y1 z1
  obtain ⟨rfl, N1q, e1⟩ := hQ1
  have N1 := Fr.app N0 N1q
  obtain ⟨T2, h2, X2, e2, W2, st2⟩ := putF X1 hx hZ hown (host := "") (Or.inl (hw _ (List.mem_of_getElem? (i := 30) rfl))) Via.refl e1 Fl Eo (Or.inr ⟨(hw _ (List.mem_of_getElem? (i := 31) rfl)), rfl, hnm⟩) (hw _ (List.mem_of_getElem? (i := 17) rfl)) (ty := .float) (by decide) rfl rfl (g := (mkF m 7 #[.val (.ref o0)] [(.float (1061158912 : UInt32)), (.ref o0)])) rfl rfl (hb hby d4_7)
  have Fw2 := Fl.same W2
  have K2 : Keep h0 h2 [o0] := Keep.wr (Keep.refl h0 [o0]) W2 (Or.inl (List.mem_of_getElem? (i := 0) rfl))
  have Z2 : n0 ≤ h2.size := Nat.le_trans Z0 K2.1
  have N2 := Fr.snoc X2 N1 g_o0
  have f3 := (Eo.wr W2)
  obtain ⟨fs, hr, hrun, hended, hW, hsame⟩ := X2.leave (v := none) (fun _ => rfl)
  refine ⟨_, _, pre0 _ ?_, hrun, hended, _, _, rfl, ?_, ⟨_, rfl⟩, hW, hsame.mono (by decide) (by decide)⟩
  · show Steps p.tables e below (s₁.setTop (mkF m 0 #[.val (.ref o0)] [])) _
    refine XS.aloadN X0.here hx rfl (hb hby d4_0) rfl rfl ?_
    show Steps p.tables e below (s₁.setTop (mkF m 1 #[.val (.ref o0)] [(.ref o0)])) _
    refine st1.trans ?_
    show Steps p.tables e below (T1.setTop (mkF m 4 #[.val (.ref o0)] [])) _
    refine XS.aloadN X1.here hx rfl (hb hby d4_4) rfl rfl ?_
    show Steps p.tables e below (T1.setTop (mkF m 5 #[.val (.ref o0)] [(.ref o0)])) _
    refine X1.ldcFloatC hx hown (mvT hZ (hw _ (List.mem_of_getElem? (i := 29) rfl))) (g := (mkF m 5 #[.val (.ref o0)] [(.ref o0)])) rfl (hb hby d4_5) _ ?_
    show Steps p.tables e below (T1.setTop (mkF m 7 #[.val (.ref o0)] [(.float (1061158912 : UInt32)), (.ref o0)])) _
    refine st2 _ ?_
    show Steps p.tables e below (T2.setTop (mkF m 10 #[.val (.ref o0)] [])) _
    exact X2.returnOut hx Bd.returns (hb hby d4_10) hr
  · show Q4 Z o0 h0 n0 _ T2.heap _
    rw [e2]
    exact ⟨rfl, N2, K2, f3⟩
theorem d3_0 : decode prog_31_method_1_code 0 = .ok (.aload_n 0, 1) := by decide +kernel
theorem d3_1 : decode prog_31_method_1_code 1 = .ok (.invokespecial 1, 3) := by decide +kernel
theorem d3_4 : decode prog_31_method_1_code 4 = .ok (.aload_n 0, 1) := by decide +kernel
theorem d3_5 : decode prog_31_method_1_code 5 = .ok (.new 7, 3) := by decide +kernel
theorem d3_8 : decode prog_31_method_1_code 8 = .ok (.dup, 1) := by decide +kernel
theorem d3_9 : decode prog_31_method_1_code 9 = .ok (.invokespecial 9, 3) := by decide +kernel
theorem d3_12 : decode prog_31_method_1_code 12 = .ok (.putfield 10, 3) := by decide +kernel
theorem d3_15 : decode prog_31_method_1_code 15 = .ok (.aload_n 0, 1) := by decide +kernel
theorem d3_16 : decode prog_31_method_1_code 16 = .ok (.new 7, 3) := by decide +kernel
theorem d3_19 : decode prog_31_method_1_code 19 = .ok (.dup, 1) := by decide +kernel
theorem d3_20 : decode prog_31_method_1_code 20 = .ok (.invokespecial 9, 3) := by decide +kernel
theorem d3_23 : decode prog_31_method_1_code 23 = .ok (.putfield 16, 3) := by decide +kernel
theorem d3_26 : decode prog_31_method_1_code 26 = .ok (.aload_n 0, 1) := by decide +kernel
theorem d3_27 : decode prog_31_method_1_code 27 = .ok (.bipush 64, 2) := by decide +kernel
theorem d3_29 : decode prog_31_method_1_code 29 = .ok (.anewarray 19, 3) := by decide +kernel
theorem d3_32 : decode prog_31_method_1_code 32 = .ok (.putfield 21, 3) := by decide +kernel
theorem d3_35 : decode prog_31_method_1_code 35 = .ok (.aload_n 0, 1) := by decide +kernel
theorem d3_36 : decode prog_31_method_1_code 36 = .ok (.sipush 4096, 3) := by decide +kernel
theorem d3_39 : decode prog_31_method_1_code 39 = .ok (.putfield 25, 3) := by decide +kernel
theorem d3_42 : decode prog_31_method_1_code 42 = .ok (.return_, 1) := by decide +kernel
theorem pn_4 : plainName "com/example/trusted_cut/trustedcut/program/Bindings" = true := by first | (simp [plainName, overriddenIn]; done) | decide +kernel
theorem ef_3 (m : MethodId) (o0 : Addr) : entryFrame m #[(.ref o0)] 1 = mkF m 0 #[.val (.ref o0)] [] := by first | (simp [entryFrame, mkF, argsToLocals, Value.category]; done) | rfl
def Q3 (Z : State) (o0 : Addr) (h0 : Heap) (n0 : Nat) (v : Option Value) (h : Heap) (L : List Loc) : Prop := v = none ∧ Fr n0 L ∧ Keep h0 h [o0] ∧ Exa Z h o0 "com/example/trusted_cut/trustedcut/program/Bindings" ∧ Fld Z h o0 "com/example/trusted_cut/trustedcut/program/Bindings" "trailed" "I" (.int (0 : Int32))
set_option maxRecDepth 65536 in
set_option maxHeartbeats 40000000 in
theorem rm3 (l : Launch) (Z : State) (a0 : Array Value) (hw : ∀ d ∈ tables_1, d.before a0 Z = true) (ws : List Jvm.Cond) (o0 : Addr) (h0 : Heap) (n0 : Nat) (Z0 : n0 ≤ h0.size) (Eo : Exa Z h0 o0 "com/example/trusted_cut/trustedcut/program/Bindings") (F_elsewhere : Fld Z h0 o0 "com/example/trusted_cut/trustedcut/program/Bindings" "elsewhere" "Ljava/util/Map;" .null) (F_bagEnds : Fld Z h0 o0 "com/example/trusted_cut/trustedcut/program/Bindings" "bagEnds" "Ljava/util/Map;" .null) (F_trail : Fld Z h0 o0 "com/example/trusted_cut/trustedcut/program/Bindings" "trail" "[Lcom/example/trusted_cut/trustedcut/term/Var;" .null) (F_compactedAt : Fld Z h0 o0 "com/example/trusted_cut/trustedcut/program/Bindings" "compactedAt" "I" (.int (0 : Int32))) (F_trailed : Fld Z h0 o0 "com/example/trusted_cut/trustedcut/program/Bindings" "trailed" "I" (.int (0 : Int32))) (g_o0 : n0 ≤ o0) :
    MetFree l (⟨"com/example/trusted_cut/trustedcut/program/Bindings", "<init>", "()V"⟩ : MethodName) (head1 (Jvm.Cond.code (⟨"com/example/trusted_cut/trustedcut/program/Bindings", "<init>", "()V"⟩ : MethodName) prog_31_method_1_code 1 none :: ws) ({ frames := 3, cells := 3, slots := 80, locals := 38 } : Room)) (fun a U => a = #[(.ref o0)] ∧ Z.Warmed39 U.vm ∧ U.heap = h0) (fun _ _ _ _ _ => True) (fun _ U o U' => ∃ v L, o = .returned v ∧ Q3 Z o0 h0 n0 v U'.heap L ∧ FrameEnd U o U' L ({ frames := 3, cells := 3, slots := 80, locals := 38 } : Room).cells ({ frames := 3, cells := 3, slots := 80, locals := 38 } : Room).slots) := by
  refine MetFree.of_bodySF (plainFor_of_name pn_4) hisR ?_
  intro p e s m args below meth c s₁ Bd hml0 hP hK
  obtain ⟨rfl, hZ, hh⟩ := hP
  have hx := Bd.exec
  have hby := Bd.bytes
  have hml : c.maxLocals = 1 := hml0
  have hown : s.vm.findClass "com/example/trusted_cut/trustedcut/program/Bindings" = some m.cls := findClass_of_methodNamed Bd.named
  have hnm := (name_of_methodNamed Bd.named Bd.method).1
  have X0 : Stand p l e ({ frames := 3, cells := 3, slots := 80, locals := 38 } : Room) s m #[(.ref o0)] below meth c s₁ [] 0 0 := Stand.of_body Bd
  have e0 : s₁.heap = h0 := by rw [← hh, Bd.state]; rfl
  have N0 := Fr.nil n0
  have pre0 : ∀ t, Steps p.tables e below (s₁.setTop (mkF m 0 #[.val (.ref o0)] [])) t → Steps p.tables e below (s₁.setTop (entryFrame m #[(.ref o0)] 1)) t := fun t k => castTop (ef_3 m o0) k
  obtain ⟨T1, X1, e1, st1⟩ := initO X0 hx hZ hown (hw _ (List.mem_of_getElem? (i := 15) rfl)) (hw _ (List.mem_of_getElem? (i := 7) rfl)) (hw _ (List.mem_of_getElem? (i := 8) rfl)) e0 (g := (mkF m 1 #[.val (.ref o0)] [(.ref o0)])) rfl (by rw [hml]; rfl) rfl (hb hby d3_1) (by decide) (W := 0) (by show 2 * 0 + _ ≤ _; exact Nat.le_of_eq rfl) (by decide)
  obtain ⟨T2, h2, X2, e2, E2, A2, D2, -, st2⟩ := newO X1 hx hZ hown (hw _ (List.mem_of_getElem? (i := 16) rfl)) (hw _ (List.mem_of_getElem? (i := 17) rfl)) (hw _ (List.mem_of_getElem? (i := 18) rfl)) e1 (g := (mkF m 5 #[.val (.ref o0)] [(.ref o0)])) rfl (hb hby d3_5) (by decide) (by decide)
  obtain ⟨b2, g2⟩ : ∃ z, z = h0.size := ⟨_, rfl⟩
  rw [← g2] at A2 D2 st2
  have g_b2 : n0 ≤ b2 := Nat.le_trans Z0 (Nat.le_of_eq g2.symm)
  have sz_b2 : h0.size ≤ b2 := Nat.le_trans (Keep.refl h0 [o0]).1 (Nat.le_of_eq g2.symm)
  have ne_o0_b2 : o0 ≠ b2 := Nat.ne_of_lt (Nat.lt_of_lt_of_le Eo.lt (Nat.le_of_eq g2.symm))
  have K2 : Keep h0 h2 [o0] := Keep.ext (Keep.refl h0 [o0]) E2
  have Z2 : n0 ≤ h2.size := Nat.le_trans Z0 K2.1
  have F_loadFactor_b2 : Fld Z h2 b2 "java/util/HashMap" "loadFactor" "F" (.float 0) := D2 (Or.inr (hw _ (List.mem_of_getElem? (i := 31) rfl))) (ty := .float) (by decide)
  obtain ⟨_, _, ⟨T3, L3, k3, n3⟩, -, X3, ⟨Lc3, hQ3, l3, y3, z3⟩, st3⟩ := X2.specialBack hx (y := (⟨"java/util/HashMap", "<init>", "()V"⟩ : MethodName)) rfl hown (mvT hZ (hw _ (List.mem_of_getElem? (i := 19) rfl))) (mvT hZ (hw _ (List.mem_of_getElem? (i := 20) rfl))) (mvT hZ (hw _ (List.mem_of_getElem? (i := 21) rfl))) (by decide) (backOf (W := 2) (rm4 l Z a0 hw [] b2 h2 n0 Z2 A2 F_loadFactor_b2 g_b2) hZ (hw _ (List.mem_of_getElem? (i := 21) rfl)) (hw _ (List.mem_of_getElem? (i := 18) rfl)) (by decide) (by decide)) (g := (mkF m 9 #[.val (.ref o0)] [(.ref b2), (.ref b2), (.ref o0)])) rfl (by rw [hml]; rfl) (Steps.refl _) (a := b2) (argsL := []) (rest := [(.ref b2), (.ref o0)]) (lenOf pd_0 rfl) rfl (by show 2 * 0 + _ ≤ _; exact Nat.le_of_eq rfl) (hb hby d3_9) (fun _ _ => ⟨rfl, e2, (by decide : 1 + 0 ≤ _), (by decide : 8 + 0 ≤ _)⟩)
  dsimp only [Pt.U, Pt.locs, Pt.cells, Pt.slots] at X3 l3 y3 z3 st3 hQ3
  subst l3 y3 z3
  obtain ⟨rfl, N3q, K3, E3o⟩ := hQ3
  have KK3 : Keep h0 T3.heap [o0] := Keep.trans K2 K3 (own_side1 (Or.inr sz_b2))
  have Z3 : n0 ≤ T3.heap.size := Nat.le_trans Z0 KK3.1
  have N3 := Fr.app N0 N3q
  have f4 := ((Eo.ext E2).keep K3)
  have f5 := ((F_elsewhere.ext E2).keep K3 (own_notin1 ne_o0_b2))
  obtain ⟨T6, h6, X6, e6, W6, st6⟩ := putF X3 hx hZ hown (host := "") (Or.inl (hw _ (List.mem_of_getElem? (i := 32) rfl))) Via.refl rfl f5 f4 (Or.inr ⟨(hw _ (List.mem_of_getElem? (i := 33) rfl)), rfl, hnm⟩) (hw _ (List.mem_of_getElem? (i := 10) rfl)) (ty := (.object "java/util/Map")) (by decide) rfl rfl (g := (mkF m 12 #[.val (.ref o0)] [(.ref b2), (.ref o0)])) rfl rfl (hb hby d3_12)
  have Fw6 := f5.same W6
  have K6 : Keep h0 h6 [o0] := Keep.wr KK3 W6 (Or.inl (List.mem_of_getElem? (i := 0) rfl))
  have Z6 : n0 ≤ h6.size := Nat.le_trans Z0 K6.1
  have N6 := Fr.snoc X6 N3 g_o0
  have f7 := (f4.wr W6)
  have f8 := (E3o.wr W6)
  obtain ⟨T9, h9, X9, e9, E9, A9, D9, -, st9⟩ := newO X6 hx hZ hown (hw _ (List.mem_of_getElem? (i := 16) rfl)) (hw _ (List.mem_of_getElem? (i := 17) rfl)) (hw _ (List.mem_of_getElem? (i := 18) rfl)) e6 (g := (mkF m 16 #[.val (.ref o0)] [(.ref o0)])) rfl (hb hby d3_16) (by decide) (by decide)
  obtain ⟨b9, g9⟩ : ∃ z, z = h6.size := ⟨_, rfl⟩
  rw [← g9] at A9 D9 st9
  have g_b9 : n0 ≤ b9 := Nat.le_trans Z6 (Nat.le_of_eq g9.symm)
  have sz_b9 : h0.size ≤ b9 := Nat.le_trans K6.1 (Nat.le_of_eq g9.symm)
  have ne_o0_b9 : o0 ≠ b9 := Nat.ne_of_lt (Nat.lt_of_lt_of_le f7.lt (Nat.le_of_eq g9.symm))
  have ne_b2_b9 : b2 ≠ b9 := Nat.ne_of_lt (Nat.lt_of_lt_of_le f8.lt (Nat.le_of_eq g9.symm))
  have K9 : Keep h0 h9 [o0] := Keep.ext K6 E9
  have Z9 : n0 ≤ h9.size := Nat.le_trans Z0 K9.1
  have F_loadFactor_b9 : Fld Z h9 b9 "java/util/HashMap" "loadFactor" "F" (.float 0) := D9 (Or.inr (hw _ (List.mem_of_getElem? (i := 31) rfl))) (ty := .float) (by decide)
  obtain ⟨_, _, ⟨T10, L10, k10, n10⟩, -, X10, ⟨Lc10, hQ10, l10, y10, z10⟩, st10⟩ := X9.specialBack hx (y := (⟨"java/util/HashMap", "<init>", "()V"⟩ : MethodName)) rfl hown (mvT hZ (hw _ (List.mem_of_getElem? (i := 19) rfl))) (mvT hZ (hw _ (List.mem_of_getElem? (i := 20) rfl))) (mvT hZ (hw _ (List.mem_of_getElem? (i := 21) rfl))) (by decide) (backOf (W := 2) (rm4 l Z a0 hw [] b9 h9 n0 Z9 A9 F_loadFactor_b9 g_b9) hZ (hw _ (List.mem_of_getElem? (i := 21) rfl)) (hw _ (List.mem_of_getElem? (i := 18) rfl)) (by decide) (by decide)) (g := (mkF m 20 #[.val (.ref o0)] [(.ref b9), (.ref b9), (.ref o0)])) rfl (by rw [hml]; rfl) (Steps.refl _) (a := b9) (argsL := []) (rest := [(.ref b9), (.ref o0)]) (lenOf pd_0 rfl) rfl (by show 2 * 0 + _ ≤ _; exact Nat.le_of_eq rfl) (hb hby d3_20) (fun _ _ => ⟨rfl, e9, (by decide : 2 + 0 ≤ _), (by decide : 16 + 0 ≤ _)⟩)
  dsimp only [Pt.U, Pt.locs, Pt.cells, Pt.slots] at X10 l10 y10 z10 st10 hQ10
  subst l10 y10 z10
  obtain ⟨rfl, N10q, K10, E10o⟩ := hQ10
  have KK10 : Keep h0 T10.heap [o0] := Keep.trans K9 K10 (own_side1 (Or.inr sz_b9))
  have Z10 : n0 ≤ T10.heap.size := Nat.le_trans Z0 KK10.1
  have N10 := Fr.app N6 N10q
  have f11 := ((f7.ext E9).keep K10)
  have f12 := (((((F_bagEnds.ext E2).keep K3 (own_notin1 ne_o0_b2)).other W6 (Or.inr (slot_ne (Or.inr (hw _ (List.mem_of_getElem? (i := 35) rfl))) (Or.inr (hw _ (List.mem_of_getElem? (i := 33) rfl))) (by decide) (t := (.object "java/util/Map")) (t' := (.object "java/util/Map")) (by decide) (by decide)))).ext E9).keep K10 (own_notin1 ne_o0_b9))
  obtain ⟨T13, h13, X13, e13, W13, st13⟩ := putF X10 hx hZ hown (host := "") (Or.inl (hw _ (List.mem_of_getElem? (i := 34) rfl))) Via.refl rfl f12 f11 (Or.inr ⟨(hw _ (List.mem_of_getElem? (i := 35) rfl)), rfl, hnm⟩) (hw _ (List.mem_of_getElem? (i := 10) rfl)) (ty := (.object "java/util/Map")) (by decide) rfl rfl (g := (mkF m 23 #[.val (.ref o0)] [(.ref b9), (.ref o0)])) rfl rfl (hb hby d3_23)
  have Fw13 := f12.same W13
  have K13 : Keep h0 h13 [o0] := Keep.wr KK10 W13 (Or.inl (List.mem_of_getElem? (i := 0) rfl))
  have Z13 : n0 ≤ h13.size := Nat.le_trans Z0 K13.1
  have N13 := Fr.snoc X13 N10 g_o0
  have f14 := (f11.wr W13)
  have f15 := (((f8.ext E9).keep K10).wr W13)
  have f16 := (E10o.wr W13)
  obtain ⟨T17, h17, k17, X17, e17, E17, A17, O17, st17⟩ := newR X13 hx hZ hown (hw _ (List.mem_of_getElem? (i := 36) rfl)) (hw _ (List.mem_of_getElem? (i := 37) rfl)) e13 (g := (mkF m 29 #[.val (.ref o0)] [(.int (64 : Int32)), (.ref o0)])) rfl (hb hby d3_29) rfl (by decide) (cap := 64) (by decide) (by decide) (by decide) (by decide)
  obtain ⟨b17, g17⟩ : ∃ z, z = h13.size := ⟨_, rfl⟩
  rw [← g17] at A17 st17
  have g_b17 : n0 ≤ b17 := Nat.le_trans Z13 (Nat.le_of_eq g17.symm)
  have sz_b17 : h0.size ≤ b17 := Nat.le_trans K13.1 (Nat.le_of_eq g17.symm)
  have ne_o0_b17 : o0 ≠ b17 := Nat.ne_of_lt (Nat.lt_of_lt_of_le f14.lt (Nat.le_of_eq g17.symm))
  have ne_b2_b17 : b2 ≠ b17 := Nat.ne_of_lt (Nat.lt_of_lt_of_le f15.lt (Nat.le_of_eq g17.symm))
  have ne_b9_b17 : b9 ≠ b17 := Nat.ne_of_lt (Nat.lt_of_lt_of_le f16.lt (Nat.le_of_eq g17.symm))
  have K17 : Keep h0 h17 [o0] := Keep.ext K13 E17
  have Z17 : n0 ≤ h17.size := Nat.le_trans Z0 K17.1
  have f18 := (f14.ext E17)
  have f19 := (((((((F_trail.ext E2).keep K3 (own_notin1 ne_o0_b2)).other W6 (Or.inr (slot_ne (Or.inl (hw _ (List.mem_of_getElem? (i := 39) rfl))) (Or.inr (hw _ (List.mem_of_getElem? (i := 33) rfl))) (by decide) (t := (.array (.object "com/example/trusted_cut/trustedcut/term/Var"))) (t' := (.object "java/util/Map")) (by decide) (by decide)))).ext E9).keep K10 (own_notin1 ne_o0_b9)).other W13 (Or.inr (slot_ne (Or.inl (hw _ (List.mem_of_getElem? (i := 39) rfl))) (Or.inr (hw _ (List.mem_of_getElem? (i := 35) rfl))) (by decide) (t := (.array (.object "com/example/trusted_cut/trustedcut/term/Var"))) (t' := (.object "java/util/Map")) (by decide) (by decide)))).ext E17)
  obtain ⟨T20, h20, X20, e20, W20, st20⟩ := putF X17 hx hZ hown (host := "") (Or.inl (hw _ (List.mem_of_getElem? (i := 38) rfl))) Via.refl e17 f19 f18 (Or.inl (hw _ (List.mem_of_getElem? (i := 39) rfl))) (hw _ (List.mem_of_getElem? (i := 10) rfl)) (ty := (.array (.object "com/example/trusted_cut/trustedcut/term/Var"))) (by decide) rfl rfl (g := (mkF m 32 #[.val (.ref o0)] [(.ref b17), (.ref o0)])) rfl rfl (hb hby d3_32)
  have Fw20 := f19.same W20
  have K20 : Keep h0 h20 [o0] := Keep.wr K17 W20 (Or.inl (List.mem_of_getElem? (i := 0) rfl))
  have Z20 : n0 ≤ h20.size := Nat.le_trans Z0 K20.1
  have N20 := Fr.snoc X20 N13 g_o0
  have f21 := (f18.wr W20)
  have f22 := ((((((((F_compactedAt.ext E2).keep K3 (own_notin1 ne_o0_b2)).other W6 (Or.inr (slot_ne (Or.inl (hw _ (List.mem_of_getElem? (i := 41) rfl))) (Or.inr (hw _ (List.mem_of_getElem? (i := 33) rfl))) (by decide) (t := .int) (t' := (.object "java/util/Map")) (by decide) (by decide)))).ext E9).keep K10 (own_notin1 ne_o0_b9)).other W13 (Or.inr (slot_ne (Or.inl (hw _ (List.mem_of_getElem? (i := 41) rfl))) (Or.inr (hw _ (List.mem_of_getElem? (i := 35) rfl))) (by decide) (t := .int) (t' := (.object "java/util/Map")) (by decide) (by decide)))).ext E17).other W20 (Or.inr (slot_ne (Or.inl (hw _ (List.mem_of_getElem? (i := 41) rfl))) (Or.inl (hw _ (List.mem_of_getElem? (i := 39) rfl))) (by decide) (t := .int) (t' := (.array (.object "com/example/trusted_cut/trustedcut/term/Var"))) (by decide) (by decide))))
  obtain ⟨T23, h23, X23, e23, W23, st23⟩ := putF X20 hx hZ hown (host := "") (Or.inl (hw _ (List.mem_of_getElem? (i := 40) rfl))) Via.refl e20 f22 f21 (Or.inl (hw _ (List.mem_of_getElem? (i := 41) rfl))) (hw _ (List.mem_of_getElem? (i := 10) rfl)) (ty := .int) (by decide) rfl rfl (g := (mkF m 39 #[.val (.ref o0)] [(.int (4096 : Int32)), (.ref o0)])) rfl rfl (hb hby d3_39)
  have Fw23 := f22.same W23
  have K23 : Keep h0 h23 [o0] := Keep.wr K20 W23 (Or.inl (List.mem_of_getElem? (i := 0) rfl))
  have Z23 : n0 ≤ h23.size := Nat.le_trans Z0 K23.1
  have N23 := Fr.snoc X23 N20 g_o0
  have f24 := (f21.wr W23)
  have f25 := (((((((((F_trailed.ext E2).keep K3 (own_notin1 ne_o0_b2)).other W6 (Or.inr (slot_ne (Or.inl (hw _ (List.mem_of_getElem? (i := 117) rfl))) (Or.inr (hw _ (List.mem_of_getElem? (i := 33) rfl))) (by decide) (t := .int) (t' := (.object "java/util/Map")) (by decide) (by decide)))).ext E9).keep K10 (own_notin1 ne_o0_b9)).other W13 (Or.inr (slot_ne (Or.inl (hw _ (List.mem_of_getElem? (i := 117) rfl))) (Or.inr (hw _ (List.mem_of_getElem? (i := 35) rfl))) (by decide) (t := .int) (t' := (.object "java/util/Map")) (by decide) (by decide)))).ext E17).other W20 (Or.inr (slot_ne (Or.inl (hw _ (List.mem_of_getElem? (i := 117) rfl))) (Or.inl (hw _ (List.mem_of_getElem? (i := 39) rfl))) (by decide) (t := .int) (t' := (.array (.object "com/example/trusted_cut/trustedcut/term/Var"))) (by decide) (by decide)))).other W23 (Or.inr (slot_ne (Or.inl (hw _ (List.mem_of_getElem? (i := 117) rfl))) (Or.inl (hw _ (List.mem_of_getElem? (i := 41) rfl))) (by decide) (t := .int) (t' := .int) (by decide) (by decide))))
  obtain ⟨fs, hr, hrun, hended, hW, hsame⟩ := X23.leave (v := none) (fun _ => rfl)
  refine ⟨_, _, pre0 _ ?_, hrun, hended, _, _, rfl, ?_, ⟨_, rfl⟩, hW, hsame.mono (by decide) (by decide)⟩
  · show Steps p.tables e below (s₁.setTop (mkF m 0 #[.val (.ref o0)] [])) _
    refine XS.aloadN X0.here hx rfl (hb hby d3_0) rfl rfl ?_
    show Steps p.tables e below (s₁.setTop (mkF m 1 #[.val (.ref o0)] [(.ref o0)])) _
    refine st1 _ ?_
    show Steps p.tables e below (T1.setTop (mkF m 4 #[.val (.ref o0)] [])) _
    refine XS.aloadN X1.here hx rfl (hb hby d3_4) rfl rfl ?_
    show Steps p.tables e below (T1.setTop (mkF m 5 #[.val (.ref o0)] [(.ref o0)])) _
    refine st2 _ ?_
    show Steps p.tables e below (T2.setTop (mkF m 8 #[.val (.ref o0)] [(.ref b2), (.ref o0)])) _
    refine XS.dup X2.here hx rfl (hb hby d3_8) rfl rfl ?_
    show Steps p.tables e below (T2.setTop (mkF m 9 #[.val (.ref o0)] [(.ref b2), (.ref b2), (.ref o0)])) _
    refine st3.trans ?_
    show Steps p.tables e below (T3.setTop (mkF m 12 #[.val (.ref o0)] [(.ref b2), (.ref o0)])) _
    refine st6 _ ?_
    show Steps p.tables e below (T6.setTop (mkF m 15 #[.val (.ref o0)] [])) _
    refine XS.aloadN X6.here hx rfl (hb hby d3_15) rfl rfl ?_
    show Steps p.tables e below (T6.setTop (mkF m 16 #[.val (.ref o0)] [(.ref o0)])) _
    refine st9 _ ?_
    show Steps p.tables e below (T9.setTop (mkF m 19 #[.val (.ref o0)] [(.ref b9), (.ref o0)])) _
    refine XS.dup X9.here hx rfl (hb hby d3_19) rfl rfl ?_
    show Steps p.tables e below (T9.setTop (mkF m 20 #[.val (.ref o0)] [(.ref b9), (.ref b9), (.ref o0)])) _
    refine st10.trans ?_
    show Steps p.tables e below (T10.setTop (mkF m 23 #[.val (.ref o0)] [(.ref b9), (.ref o0)])) _
    refine st13 _ ?_
    show Steps p.tables e below (T13.setTop (mkF m 26 #[.val (.ref o0)] [])) _
    refine XS.aloadN X13.here hx rfl (hb hby d3_26) rfl rfl ?_
    show Steps p.tables e below (T13.setTop (mkF m 27 #[.val (.ref o0)] [(.ref o0)])) _
    refine XS.bipush X13.here hx rfl (hb hby d3_27) ?_
    show Steps p.tables e below (T13.setTop (mkF m 29 #[.val (.ref o0)] [(.int (64 : Int32)), (.ref o0)])) _
    refine st17 _ ?_
    show Steps p.tables e below (T17.setTop (mkF m 32 #[.val (.ref o0)] [(.ref b17), (.ref o0)])) _
    refine st20 _ ?_
    show Steps p.tables e below (T20.setTop (mkF m 35 #[.val (.ref o0)] [])) _
    refine XS.aloadN X20.here hx rfl (hb hby d3_35) rfl rfl ?_
    show Steps p.tables e below (T20.setTop (mkF m 36 #[.val (.ref o0)] [(.ref o0)])) _
    refine XS.sipush X20.here hx rfl (hb hby d3_36) ?_
    show Steps p.tables e below (T20.setTop (mkF m 39 #[.val (.ref o0)] [(.int (4096 : Int32)), (.ref o0)])) _
    refine st23 _ ?_
    show Steps p.tables e below (T23.setTop (mkF m 42 #[.val (.ref o0)] [])) _
    exact X23.returnOut hx Bd.returns (hb hby d3_42) hr
  · show Q3 Z o0 h0 n0 _ T23.heap _
    rw [e23]
    exact ⟨rfl, N23, K23, f24, f25⟩
theorem d7_0 : decode jdk_39_method_1_code 0 = .ok (.aload_n 0, 1) := by decide +kernel
theorem d7_1 : decode jdk_39_method_1_code 1 = .ok (.invokespecial 1, 3) := by decide +kernel
theorem d7_4 : decode jdk_39_method_1_code 4 = .ok (.aload_n 0, 1) := by decide +kernel
theorem d7_5 : decode jdk_39_method_1_code 5 = .ok (.iconst 0, 1) := by decide +kernel
theorem d7_6 : decode jdk_39_method_1_code 6 = .ok (.putfield 7, 3) := by decide +kernel
theorem d7_9 : decode jdk_39_method_1_code 9 = .ok (.return_, 1) := by decide +kernel
theorem pn_5 : plainName "java/util/AbstractList" = true := by first | (simp [plainName, overriddenIn]; done) | decide +kernel
theorem ef_7 (m : MethodId) (o0 : Addr) : entryFrame m #[(.ref o0)] 1 = mkF m 0 #[.val (.ref o0)] [] := by first | (simp [entryFrame, mkF, argsToLocals, Value.category]; done) | rfl
def Q7 (Z : State) (o0 : Addr) (h0 : Heap) (n0 : Nat) (v : Option Value) (h : Heap) (L : List Loc) : Prop := v = none ∧ Fr n0 L ∧ Keep h0 h [o0] ∧ Exa Z h o0 "java/util/ArrayList" ∧ Fld Z h o0 "java/util/ArrayList" "elementData" "[Ljava/lang/Object;" .null
set_option maxRecDepth 65536 in
set_option maxHeartbeats 40000000 in
theorem rm7 (l : Launch) (Z : State) (a0 : Array Value) (hw : ∀ d ∈ tables_1, d.before a0 Z = true) (ws : List Jvm.Cond) (o0 : Addr) (h0 : Heap) (n0 : Nat) (Z0 : n0 ≤ h0.size) (Eo : Exa Z h0 o0 "java/util/ArrayList") (Fm : Fld Z h0 o0 "java/util/AbstractList" "modCount" "I" (.int (0 : Int32))) (Fe : Fld Z h0 o0 "java/util/ArrayList" "elementData" "[Ljava/lang/Object;" .null) (g_o0 : n0 ≤ o0) :
    MetFree l (⟨"java/util/AbstractList", "<init>", "()V"⟩ : MethodName) (head1 (Jvm.Cond.code (⟨"java/util/AbstractList", "<init>", "()V"⟩ : MethodName) jdk_39_method_1_code 1 none :: ws) ({ frames := 2, cells := 0, slots := 0, locals := 24 } : Room)) (fun a U => a = #[(.ref o0)] ∧ Z.Warmed39 U.vm ∧ U.heap = h0) (fun _ _ _ _ _ => True) (fun _ U o U' => ∃ v L, o = .returned v ∧ Q7 Z o0 h0 n0 v U'.heap L ∧ FrameEnd U o U' L ({ frames := 2, cells := 0, slots := 0, locals := 24 } : Room).cells ({ frames := 2, cells := 0, slots := 0, locals := 24 } : Room).slots) := by
  refine MetFree.of_bodySF (plainFor_of_name pn_5) hisR ?_
  intro p e s m args below meth c s₁ Bd hml0 hP hK
  obtain ⟨rfl, hZ, hh⟩ := hP
  have hx := Bd.exec
  have hby := Bd.bytes
  have hml : c.maxLocals = 1 := hml0
  have hown : s.vm.findClass "java/util/AbstractList" = some m.cls := findClass_of_methodNamed Bd.named
  have hnm := (name_of_methodNamed Bd.named Bd.method).1
  have X0 : Stand p l e ({ frames := 2, cells := 0, slots := 0, locals := 24 } : Room) s m #[(.ref o0)] below meth c s₁ [] 0 0 := Stand.of_body Bd
  have e0 : s₁.heap = h0 := by rw [← hh, Bd.state]; rfl
  have N0 := Fr.nil n0
  have pre0 : ∀ t, Steps p.tables e below (s₁.setTop (mkF m 0 #[.val (.ref o0)] [])) t → Steps p.tables e below (s₁.setTop (entryFrame m #[(.ref o0)] 1)) t := fun t k => castTop (ef_7 m o0) k
  obtain ⟨_, _, ⟨T1, L1, k1, n1⟩, -, X1, ⟨Lc1, hQ1, l1, y1, z1⟩, st1⟩ := X0.specialBack hx (y := (⟨"java/util/AbstractCollection", "<init>", "()V"⟩ : MethodName)) rfl hown (mvT hZ (hw _ (List.mem_of_getElem? (i := 54) rfl))) (mvT hZ (hw _ (List.mem_of_getElem? (i := 55) rfl))) (mvT hZ (hw _ (List.mem_of_getElem? (i := 59) rfl))) (by decide) (backOf (W := 0) (rm8 l Z a0 hw [] o0 h0 n0 Z0 ) hZ (hw _ (List.mem_of_getElem? (i := 59) rfl)) (hw _ (List.mem_of_getElem? (i := 58) rfl)) (by decide) (by decide)) (g := (mkF m 1 #[.val (.ref o0)] [(.ref o0)])) rfl (by rw [hml]; rfl) (Steps.refl _) (a := o0) (argsL := []) (rest := []) (lenOf pd_0 rfl) rfl (by show 2 * 0 + _ ≤ _; exact Nat.le_of_eq rfl) (hb hby d7_1) (fun _ _ => ⟨rfl, e0, (by decide : 0 + 0 ≤ _), (by decide : 0 + 0 ≤ _)⟩)
  dsimp only [Pt.U, Pt.locs, Pt.cells, Pt.slots] at X1 l1 y1 z1 st1 hQ1
  subst l1 y1 z1
  obtain ⟨rfl, N1q, e1⟩ := hQ1
  have N1 := Fr.app N0 N1q
  obtain ⟨T2, h2, X2, e2, W2, st2⟩ := putF X1 hx hZ hown (host := "") (Or.inl (hw _ (List.mem_of_getElem? (i := 61) rfl))) Via.refl e1 Fm Eo (Or.inl (hw _ (List.mem_of_getElem? (i := 62) rfl))) (hw _ (List.mem_of_getElem? (i := 43) rfl)) (ty := .int) (by decide) rfl rfl (g := (mkF m 6 #[.val (.ref o0)] [(.int (0 : Int32)), (.ref o0)])) rfl rfl (hb hby d7_6)
  have Fw2 := Fm.same W2
  have K2 : Keep h0 h2 [o0] := Keep.wr (Keep.refl h0 [o0]) W2 (Or.inl (List.mem_of_getElem? (i := 0) rfl))
  have Z2 : n0 ≤ h2.size := Nat.le_trans Z0 K2.1
  have N2 := Fr.snoc X2 N1 g_o0
  have f3 := (Eo.wr W2)
  have f4 := (Fe.other W2 (Or.inr (slot_ne (Or.inl (hw _ (List.mem_of_getElem? (i := 65) rfl))) (Or.inl (hw _ (List.mem_of_getElem? (i := 62) rfl))) (by decide) (t := (.array (.object "java/lang/Object"))) (t' := .int) (by decide) (by decide))))
  obtain ⟨fs, hr, hrun, hended, hW, hsame⟩ := X2.leave (v := none) (fun _ => rfl)
  refine ⟨_, _, pre0 _ ?_, hrun, hended, _, _, rfl, ?_, ⟨_, rfl⟩, hW, hsame.mono (by decide) (by decide)⟩
  · show Steps p.tables e below (s₁.setTop (mkF m 0 #[.val (.ref o0)] [])) _
    refine XS.aloadN X0.here hx rfl (hb hby d7_0) rfl rfl ?_
    show Steps p.tables e below (s₁.setTop (mkF m 1 #[.val (.ref o0)] [(.ref o0)])) _
    refine st1.trans ?_
    show Steps p.tables e below (T1.setTop (mkF m 4 #[.val (.ref o0)] [])) _
    refine XS.aloadN X1.here hx rfl (hb hby d7_4) rfl rfl ?_
    show Steps p.tables e below (T1.setTop (mkF m 5 #[.val (.ref o0)] [(.ref o0)])) _
    refine XS.iconst X1.here hx rfl (hb hby d7_5) ?_
    show Steps p.tables e below (T1.setTop (mkF m 6 #[.val (.ref o0)] [(.int (0 : Int32)), (.ref o0)])) _
    refine st2 _ ?_
    show Steps p.tables e below (T2.setTop (mkF m 9 #[.val (.ref o0)] [])) _
    exact X2.returnOut hx Bd.returns (hb hby d7_9) hr
  · show Q7 Z o0 h0 n0 _ T2.heap _
    rw [e2]
    exact ⟨rfl, N2, K2, f3, f4⟩
theorem d6_0 : decode jdk_38_method_2_code 0 = .ok (.aload_n 0, 1) := by decide +kernel
theorem d6_1 : decode jdk_38_method_2_code 1 = .ok (.invokespecial 1, 3) := by decide +kernel
theorem d6_4 : decode jdk_38_method_2_code 4 = .ok (.aload_n 0, 1) := by decide +kernel
theorem d6_5 : decode jdk_38_method_2_code 5 = .ok (.getstatic 39, 3) := by decide +kernel
theorem d6_8 : decode jdk_38_method_2_code 8 = .ok (.putfield 9, 3) := by decide +kernel
theorem d6_11 : decode jdk_38_method_2_code 11 = .ok (.return_, 1) := by decide +kernel
theorem pn_6 : plainName "java/util/ArrayList" = true := by first | (simp [plainName, overriddenIn]; done) | decide +kernel
theorem ef_6 (m : MethodId) (o0 : Addr) : entryFrame m #[(.ref o0)] 1 = mkF m 0 #[.val (.ref o0)] [] := by first | (simp [entryFrame, mkF, argsToLocals, Value.category]; done) | rfl
def Q6 (Z : State) (o0 : Addr) (h0 : Heap) (n0 : Nat) (v : Option Value) (h : Heap) (L : List Loc) : Prop := v = none ∧ Fr n0 L ∧ Keep h0 h [o0] ∧ Exa Z h o0 "java/util/ArrayList"
set_option maxRecDepth 65536 in
set_option maxHeartbeats 40000000 in
theorem rm6 (l : Launch) (Z : State) (a0 : Array Value) (hw : ∀ d ∈ tables_1, d.before a0 Z = true) (ws : List Jvm.Cond) (o0 bD : Addr) (h0 : Heap) (n0 : Nat) (Z0 : n0 ≤ h0.size) (SD : Sta Z h0 "java/util/ArrayList" "DEFAULTCAPACITY_EMPTY_ELEMENTDATA" "[Ljava/lang/Object;" (.ref bD)) (Eo : Exa Z h0 o0 "java/util/ArrayList") (Fm : Fld Z h0 o0 "java/util/AbstractList" "modCount" "I" (.int (0 : Int32))) (Fe : Fld Z h0 o0 "java/util/ArrayList" "elementData" "[Ljava/lang/Object;" .null) (g_o0 : n0 ≤ o0) :
    MetFree l (⟨"java/util/ArrayList", "<init>", "()V"⟩ : MethodName) (head1 (Jvm.Cond.code (⟨"java/util/ArrayList", "<init>", "()V"⟩ : MethodName) jdk_38_method_2_code 1 none :: ws) ({ frames := 3, cells := 0, slots := 0, locals := 36 } : Room)) (fun a U => a = #[(.ref o0)] ∧ Z.Warmed39 U.vm ∧ U.heap = h0) (fun _ _ _ _ _ => True) (fun _ U o U' => ∃ v L, o = .returned v ∧ Q6 Z o0 h0 n0 v U'.heap L ∧ FrameEnd U o U' L ({ frames := 3, cells := 0, slots := 0, locals := 36 } : Room).cells ({ frames := 3, cells := 0, slots := 0, locals := 36 } : Room).slots) := by
  refine MetFree.of_bodySF (plainFor_of_name pn_6) hisR ?_
  intro p e s m args below meth c s₁ Bd hml0 hP hK
  obtain ⟨rfl, hZ, hh⟩ := hP
  have hx := Bd.exec
  have hby := Bd.bytes
  have hml : c.maxLocals = 1 := hml0
  have hown : s.vm.findClass "java/util/ArrayList" = some m.cls := findClass_of_methodNamed Bd.named
  have hnm := (name_of_methodNamed Bd.named Bd.method).1
  have X0 : Stand p l e ({ frames := 3, cells := 0, slots := 0, locals := 36 } : Room) s m #[(.ref o0)] below meth c s₁ [] 0 0 := Stand.of_body Bd
  have e0 : s₁.heap = h0 := by rw [← hh, Bd.state]; rfl
  have N0 := Fr.nil n0
  have pre0 : ∀ t, Steps p.tables e below (s₁.setTop (mkF m 0 #[.val (.ref o0)] [])) t → Steps p.tables e below (s₁.setTop (entryFrame m #[(.ref o0)] 1)) t := fun t k => castTop (ef_6 m o0) k
  obtain ⟨_, _, ⟨T1, L1, k1, n1⟩, -, X1, ⟨Lc1, hQ1, l1, y1, z1⟩, st1⟩ := X0.specialBack hx (y := (⟨"java/util/AbstractList", "<init>", "()V"⟩ : MethodName)) rfl hown (mvT hZ (hw _ (List.mem_of_getElem? (i := 48) rfl))) (mvT hZ (hw _ (List.mem_of_getElem? (i := 49) rfl))) (mvT hZ (hw _ (List.mem_of_getElem? (i := 53) rfl))) (by decide) (backOf (W := 0) (rm7 l Z a0 hw [] o0 h0 n0 Z0 Eo Fm Fe g_o0) hZ (hw _ (List.mem_of_getElem? (i := 53) rfl)) (hw _ (List.mem_of_getElem? (i := 52) rfl)) (by decide) (by decide)) (g := (mkF m 1 #[.val (.ref o0)] [(.ref o0)])) rfl (by rw [hml]; rfl) (Steps.refl _) (a := o0) (argsL := []) (rest := []) (lenOf pd_0 rfl) rfl (by show 2 * 0 + _ ≤ _; exact Nat.le_of_eq rfl) (hb hby d6_1) (fun _ _ => ⟨rfl, e0, (by decide : 0 + 0 ≤ _), (by decide : 0 + 0 ≤ _)⟩)
  dsimp only [Pt.U, Pt.locs, Pt.cells, Pt.slots] at X1 l1 y1 z1 st1 hQ1
  subst l1 y1 z1
  obtain ⟨rfl, N1q, K1, E1o, F1_0⟩ := hQ1
  have sk2 := own_sta_keep1 SD Eo K1
  have KK1 : Keep h0 T1.heap [o0] := Keep.trans (Keep.refl h0 [o0]) K1 (own_side1 (Or.inl (List.mem_of_getElem? (i := 0) rfl)))
  have Z1 : n0 ≤ T1.heap.size := Nat.le_trans Z0 KK1.1
  have N1 := Fr.app N0 N1q
  obtain ⟨T3, X3, e3, st3⟩ := getS2 X1 hx hZ hown (host := "") (Or.inl (hw _ (List.mem_of_getElem? (i := 63) rfl))) Via.refl rfl sk2 (g := (mkF m 5 #[.val (.ref o0)] [(.ref o0)])) rfl (hb hby d6_5)
  obtain ⟨T4, h4, X4, e4, W4, st4⟩ := putF X3 hx hZ hown (host := "") (Or.inl (hw _ (List.mem_of_getElem? (i := 64) rfl))) Via.refl e3 F1_0 E1o (Or.inl (hw _ (List.mem_of_getElem? (i := 65) rfl))) (hw _ (List.mem_of_getElem? (i := 43) rfl)) (ty := (.array (.object "java/lang/Object"))) (by decide) rfl rfl (g := (mkF m 8 #[.val (.ref o0)] [(.ref bD), (.ref o0)])) rfl rfl (hb hby d6_8)
  have Fw4 := F1_0.same W4
  have K4 : Keep h0 h4 [o0] := Keep.wr KK1 W4 (Or.inl (List.mem_of_getElem? (i := 0) rfl))
  have Z4 : n0 ≤ h4.size := Nat.le_trans Z0 K4.1
  have N4 := Fr.snoc X4 N1 g_o0
  have f5 := (E1o.wr W4)
  obtain ⟨fs, hr, hrun, hended, hW, hsame⟩ := X4.leave (v := none) (fun _ => rfl)
  refine ⟨_, _, pre0 _ ?_, hrun, hended, _, _, rfl, ?_, ⟨_, rfl⟩, hW, hsame.mono (by decide) (by decide)⟩
  · show Steps p.tables e below (s₁.setTop (mkF m 0 #[.val (.ref o0)] [])) _
    refine XS.aloadN X0.here hx rfl (hb hby d6_0) rfl rfl ?_
    show Steps p.tables e below (s₁.setTop (mkF m 1 #[.val (.ref o0)] [(.ref o0)])) _
    refine st1.trans ?_
    show Steps p.tables e below (T1.setTop (mkF m 4 #[.val (.ref o0)] [])) _
    refine XS.aloadN X1.here hx rfl (hb hby d6_4) rfl rfl ?_
    show Steps p.tables e below (T1.setTop (mkF m 5 #[.val (.ref o0)] [(.ref o0)])) _
    refine st3 _ ?_
    show Steps p.tables e below (T3.setTop (mkF m 8 #[.val (.ref o0)] [(.ref bD), (.ref o0)])) _
    refine st4 _ ?_
    show Steps p.tables e below (T4.setTop (mkF m 11 #[.val (.ref o0)] [])) _
    exact X4.returnOut hx Bd.returns (hb hby d6_11) hr
  · show Q6 Z o0 h0 n0 _ T4.heap _
    rw [e4]
    exact ⟨rfl, N4, K4, f5⟩
theorem d9_0 : decode prog_90_method_1_code 0 = .ok (.aload_n 0, 1) := by decide +kernel
theorem d9_1 : decode prog_90_method_1_code 1 = .ok (.invokespecial 1, 3) := by decide +kernel
theorem d9_4 : decode prog_90_method_1_code 4 = .ok (.aload_n 0, 1) := by decide +kernel
theorem d9_5 : decode prog_90_method_1_code 5 = .ok (.aload_n 0, 1) := by decide +kernel
theorem d9_6 : decode prog_90_method_1_code 6 = .ok (.putfield 7, 3) := by decide +kernel
theorem d9_9 : decode prog_90_method_1_code 9 = .ok (.aload_n 0, 1) := by decide +kernel
theorem d9_10 : decode prog_90_method_1_code 10 = .ok (.iload_n 1, 1) := by decide +kernel
theorem d9_11 : decode prog_90_method_1_code 11 = .ok (.putfield 13, 3) := by decide +kernel
theorem d9_14 : decode prog_90_method_1_code 14 = .ok (.aload_n 0, 1) := by decide +kernel
theorem d9_15 : decode prog_90_method_1_code 15 = .ok (.aload_n 2, 1) := by decide +kernel
theorem d9_16 : decode prog_90_method_1_code 16 = .ok (.putfield 17, 3) := by decide +kernel
theorem d9_19 : decode prog_90_method_1_code 19 = .ok (.return_, 1) := by decide +kernel
theorem pn_7 : plainName "com/example/trusted_cut/trustedcut/program/Unifier" = true := by first | (simp [plainName, overriddenIn]; done) | decide +kernel
theorem ef_9 (m : MethodId) (o0 : Addr) (p1 : Int32) (o2 : Addr) : entryFrame m #[(.ref o0), (.int p1), (.ref o2)] 3 = mkF m 0 #[.val (.ref o0), .val (.int p1), .val (.ref o2)] [] := by first | (simp [entryFrame, mkF, argsToLocals, Value.category]; done) | rfl
def Q9 (Z : State) (o0 : Addr) (h0 : Heap) (n0 : Nat) (v : Option Value) (h : Heap) (L : List Loc) : Prop := v = none ∧ Fr n0 L ∧ Keep h0 h [o0] ∧ Exa Z h o0 "com/example/trusted_cut/trustedcut/program/Unifier" ∧ Fld Z h o0 "com/example/trusted_cut/trustedcut/program/Unifier" "marked" "Lcom/example/trusted_cut/trustedcut/program/Unifier;" (.ref o0)
set_option maxRecDepth 65536 in
set_option maxHeartbeats 40000000 in
theorem rm9 (l : Launch) (Z : State) (a0 : Array Value) (hw : ∀ d ∈ tables_1, d.before a0 Z = true) (ws : List Jvm.Cond) (o0 : Addr) (p1 : Int32) (o2 : Addr) (h0 : Heap) (n0 : Nat) (Z0 : n0 ≤ h0.size) (Eo : Exa Z h0 o0 "com/example/trusted_cut/trustedcut/program/Unifier") (F1 : Fld Z h0 o0 "com/example/trusted_cut/trustedcut/program/Unifier" "marked" "Lcom/example/trusted_cut/trustedcut/program/Unifier;" .null) (F2 : Fld Z h0 o0 "com/example/trusted_cut/trustedcut/program/Unifier" "mark" "I" (.int (0 : Int32))) (F3 : Fld Z h0 o0 "com/example/trusted_cut/trustedcut/program/Unifier" "made" "[Lcom/example/trusted_cut/trustedcut/term/Term;" .null) (g_o0 : n0 ≤ o0) :
    MetFree l (⟨"com/example/trusted_cut/trustedcut/program/Unifier", "<init>", "(I[Lcom/example/trusted_cut/trustedcut/term/Term;)V"⟩ : MethodName) (head1 (Jvm.Cond.code (⟨"com/example/trusted_cut/trustedcut/program/Unifier", "<init>", "(I[Lcom/example/trusted_cut/trustedcut/term/Term;)V"⟩ : MethodName) prog_90_method_1_code 3 none :: ws) ({ frames := 1, cells := 0, slots := 0, locals := 12 } : Room)) (fun a U => a = #[(.ref o0), (.int p1), (.ref o2)] ∧ Z.Warmed39 U.vm ∧ U.heap = h0) (fun _ _ _ _ _ => True) (fun _ U o U' => ∃ v L, o = .returned v ∧ Q9 Z o0 h0 n0 v U'.heap L ∧ FrameEnd U o U' L ({ frames := 1, cells := 0, slots := 0, locals := 12 } : Room).cells ({ frames := 1, cells := 0, slots := 0, locals := 12 } : Room).slots) := by
  refine MetFree.of_bodySF (plainFor_of_name pn_7) hisR ?_
  intro p e s m args below meth c s₁ Bd hml0 hP hK
  obtain ⟨rfl, hZ, hh⟩ := hP
  have hx := Bd.exec
  have hby := Bd.bytes
  have hml : c.maxLocals = 3 := hml0
  have hown : s.vm.findClass "com/example/trusted_cut/trustedcut/program/Unifier" = some m.cls := findClass_of_methodNamed Bd.named
  have hnm := (name_of_methodNamed Bd.named Bd.method).1
  have X0 : Stand p l e ({ frames := 1, cells := 0, slots := 0, locals := 12 } : Room) s m #[(.ref o0), (.int p1), (.ref o2)] below meth c s₁ [] 0 0 := Stand.of_body Bd
  have e0 : s₁.heap = h0 := by rw [← hh, Bd.state]; rfl
  have N0 := Fr.nil n0
  have pre0 : ∀ t, Steps p.tables e below (s₁.setTop (mkF m 0 #[.val (.ref o0), .val (.int p1), .val (.ref o2)] [])) t → Steps p.tables e below (s₁.setTop (entryFrame m #[(.ref o0), (.int p1), (.ref o2)] 3)) t := fun t k => castTop (ef_9 m o0 p1 o2) k
  obtain ⟨T1, X1, e1, st1⟩ := initO X0 hx hZ hown (hw _ (List.mem_of_getElem? (i := 74) rfl)) (hw _ (List.mem_of_getElem? (i := 7) rfl)) (hw _ (List.mem_of_getElem? (i := 8) rfl)) e0 (g := (mkF m 1 #[.val (.ref o0), .val (.int p1), .val (.ref o2)] [(.ref o0)])) rfl (by rw [hml]; rfl) rfl (hb hby d9_1) (by decide) (W := 0) (by show 2 * 0 + _ ≤ _; exact Nat.le_of_eq rfl) (by decide)
  obtain ⟨T2, h2, X2, e2, W2, st2⟩ := putF X1 hx hZ hown (host := "") (Or.inl (hw _ (List.mem_of_getElem? (i := 75) rfl))) Via.refl e1 F1 Eo (Or.inl (hw _ (List.mem_of_getElem? (i := 76) rfl))) (hw _ (List.mem_of_getElem? (i := 67) rfl)) (ty := (.object "com/example/trusted_cut/trustedcut/program/Unifier")) (by decide) rfl rfl (g := (mkF m 6 #[.val (.ref o0), .val (.int p1), .val (.ref o2)] [(.ref o0), (.ref o0)])) rfl rfl (hb hby d9_6)
  have Fw2 := F1.same W2
  have K2 : Keep h0 h2 [o0] := Keep.wr (Keep.refl h0 [o0]) W2 (Or.inl (List.mem_of_getElem? (i := 0) rfl))
  have Z2 : n0 ≤ h2.size := Nat.le_trans Z0 K2.1
  have N2 := Fr.snoc X2 N0 g_o0
  have f3 := (Eo.wr W2)
  have f4 := (F2.other W2 (Or.inr (slot_ne (Or.inl (hw _ (List.mem_of_getElem? (i := 78) rfl))) (Or.inl (hw _ (List.mem_of_getElem? (i := 76) rfl))) (by decide) (t := .int) (t' := (.object "com/example/trusted_cut/trustedcut/program/Unifier")) (by decide) (by decide))))
  obtain ⟨T5, h5, X5, e5, W5, st5⟩ := putF X2 hx hZ hown (host := "") (Or.inl (hw _ (List.mem_of_getElem? (i := 77) rfl))) Via.refl e2 f4 f3 (Or.inl (hw _ (List.mem_of_getElem? (i := 78) rfl))) (hw _ (List.mem_of_getElem? (i := 67) rfl)) (ty := .int) (by decide) rfl rfl (g := (mkF m 11 #[.val (.ref o0), .val (.int p1), .val (.ref o2)] [(.int p1), (.ref o0)])) rfl rfl (hb hby d9_11)
  have Fw5 := f4.same W5
  have K5 : Keep h0 h5 [o0] := Keep.wr K2 W5 (Or.inl (List.mem_of_getElem? (i := 0) rfl))
  have Z5 : n0 ≤ h5.size := Nat.le_trans Z0 K5.1
  have N5 := Fr.snoc X5 N2 g_o0
  have f6 := (f3.wr W5)
  have f7 := ((F3.other W2 (Or.inr (slot_ne (Or.inr (hw _ (List.mem_of_getElem? (i := 80) rfl))) (Or.inl (hw _ (List.mem_of_getElem? (i := 76) rfl))) (by decide) (t := (.array (.object "com/example/trusted_cut/trustedcut/term/Term"))) (t' := (.object "com/example/trusted_cut/trustedcut/program/Unifier")) (by decide) (by decide)))).other W5 (Or.inr (slot_ne (Or.inr (hw _ (List.mem_of_getElem? (i := 80) rfl))) (Or.inl (hw _ (List.mem_of_getElem? (i := 78) rfl))) (by decide) (t := (.array (.object "com/example/trusted_cut/trustedcut/term/Term"))) (t' := .int) (by decide) (by decide))))
  obtain ⟨T8, h8, X8, e8, W8, st8⟩ := putF X5 hx hZ hown (host := "") (Or.inl (hw _ (List.mem_of_getElem? (i := 79) rfl))) Via.refl e5 f7 f6 (Or.inr ⟨(hw _ (List.mem_of_getElem? (i := 80) rfl)), rfl, hnm⟩) (hw _ (List.mem_of_getElem? (i := 67) rfl)) (ty := (.array (.object "com/example/trusted_cut/trustedcut/term/Term"))) (by decide) rfl rfl (g := (mkF m 16 #[.val (.ref o0), .val (.int p1), .val (.ref o2)] [(.ref o2), (.ref o0)])) rfl rfl (hb hby d9_16)
  have Fw8 := f7.same W8
  have K8 : Keep h0 h8 [o0] := Keep.wr K5 W8 (Or.inl (List.mem_of_getElem? (i := 0) rfl))
  have Z8 : n0 ≤ h8.size := Nat.le_trans Z0 K8.1
  have N8 := Fr.snoc X8 N5 g_o0
  have f9 := (f6.wr W8)
  have f10 := ((Fw2.other W5 (Or.inr (slot_ne (Or.inl (hw _ (List.mem_of_getElem? (i := 76) rfl))) (Or.inl (hw _ (List.mem_of_getElem? (i := 78) rfl))) (by decide) (t := (.object "com/example/trusted_cut/trustedcut/program/Unifier")) (t' := .int) (by decide) (by decide)))).other W8 (Or.inr (slot_ne (Or.inl (hw _ (List.mem_of_getElem? (i := 76) rfl))) (Or.inr (hw _ (List.mem_of_getElem? (i := 80) rfl))) (by decide) (t := (.object "com/example/trusted_cut/trustedcut/program/Unifier")) (t' := (.array (.object "com/example/trusted_cut/trustedcut/term/Term"))) (by decide) (by decide))))
  obtain ⟨fs, hr, hrun, hended, hW, hsame⟩ := X8.leave (v := none) (fun _ => rfl)
  refine ⟨_, _, pre0 _ ?_, hrun, hended, _, _, rfl, ?_, ⟨_, rfl⟩, hW, hsame.mono (by decide) (by decide)⟩
  · show Steps p.tables e below (s₁.setTop (mkF m 0 #[.val (.ref o0), .val (.int p1), .val (.ref o2)] [])) _
    refine XS.aloadN X0.here hx rfl (hb hby d9_0) rfl rfl ?_
    show Steps p.tables e below (s₁.setTop (mkF m 1 #[.val (.ref o0), .val (.int p1), .val (.ref o2)] [(.ref o0)])) _
    refine st1 _ ?_
    show Steps p.tables e below (T1.setTop (mkF m 4 #[.val (.ref o0), .val (.int p1), .val (.ref o2)] [])) _
    refine XS.aloadN X1.here hx rfl (hb hby d9_4) rfl rfl ?_
    show Steps p.tables e below (T1.setTop (mkF m 5 #[.val (.ref o0), .val (.int p1), .val (.ref o2)] [(.ref o0)])) _
    refine XS.aloadN X1.here hx rfl (hb hby d9_5) rfl rfl ?_
    show Steps p.tables e below (T1.setTop (mkF m 6 #[.val (.ref o0), .val (.int p1), .val (.ref o2)] [(.ref o0), (.ref o0)])) _
    refine st2 _ ?_
    show Steps p.tables e below (T2.setTop (mkF m 9 #[.val (.ref o0), .val (.int p1), .val (.ref o2)] [])) _
    refine XS.aloadN X2.here hx rfl (hb hby d9_9) rfl rfl ?_
    show Steps p.tables e below (T2.setTop (mkF m 10 #[.val (.ref o0), .val (.int p1), .val (.ref o2)] [(.ref o0)])) _
    refine XS.iloadN X2.here hx rfl (hb hby d9_10) rfl ?_
    show Steps p.tables e below (T2.setTop (mkF m 11 #[.val (.ref o0), .val (.int p1), .val (.ref o2)] [(.int p1), (.ref o0)])) _
    refine st5 _ ?_
    show Steps p.tables e below (T5.setTop (mkF m 14 #[.val (.ref o0), .val (.int p1), .val (.ref o2)] [])) _
    refine XS.aloadN X5.here hx rfl (hb hby d9_14) rfl rfl ?_
    show Steps p.tables e below (T5.setTop (mkF m 15 #[.val (.ref o0), .val (.int p1), .val (.ref o2)] [(.ref o0)])) _
    refine XS.aloadN X5.here hx rfl (hb hby d9_15) rfl rfl ?_
    show Steps p.tables e below (T5.setTop (mkF m 16 #[.val (.ref o0), .val (.int p1), .val (.ref o2)] [(.ref o2), (.ref o0)])) _
    refine st8 _ ?_
    show Steps p.tables e below (T8.setTop (mkF m 19 #[.val (.ref o0), .val (.int p1), .val (.ref o2)] [])) _
    exact X8.returnOut hx Bd.returns (hb hby d9_19) hr
  · show Q9 Z o0 h0 n0 _ T8.heap _
    rw [e8]
    exact ⟨rfl, N8, K8, f9, f10⟩
theorem d16_0 : decode prog_42_method_1_code 0 = .ok (.aload_n 0, 1) := by decide +kernel
theorem d16_1 : decode prog_42_method_1_code 1 = .ok (.invokespecial 1, 3) := by decide +kernel
theorem d16_4 : decode prog_42_method_1_code 4 = .ok (.aload_n 0, 1) := by decide +kernel
theorem d16_5 : decode prog_42_method_1_code 5 = .ok (.aload_n 1, 1) := by decide +kernel
theorem d16_6 : decode prog_42_method_1_code 6 = .ok (.putfield 7, 3) := by decide +kernel
theorem d16_9 : decode prog_42_method_1_code 9 = .ok (.aload_n 0, 1) := by decide +kernel
theorem d16_10 : decode prog_42_method_1_code 10 = .ok (.aload_n 2, 1) := by decide +kernel
theorem d16_11 : decode prog_42_method_1_code 11 = .ok (.putfield 13, 3) := by decide +kernel
theorem d16_14 : decode prog_42_method_1_code 14 = .ok (.aload_n 0, 1) := by decide +kernel
theorem d16_15 : decode prog_42_method_1_code 15 = .ok (.aload_n 3, 1) := by decide +kernel
theorem d16_16 : decode prog_42_method_1_code 16 = .ok (.putfield 17, 3) := by decide +kernel
theorem d16_19 : decode prog_42_method_1_code 19 = .ok (.return_, 1) := by decide +kernel
theorem pn_8 : plainName "com/example/trusted_cut/trustedcut/program/Choice" = true := by first | (simp [plainName, overriddenIn]; done) | decide +kernel
theorem ef_16 (m : MethodId) (o0 : Addr) (o1 : Addr) (o2 : Addr) : entryFrame m #[(.ref o0), (.ref o1), (.ref o2), .null] 4 = mkF m 0 #[.val (.ref o0), .val (.ref o1), .val (.ref o2), .val .null] [] := by first | (simp [entryFrame, mkF, argsToLocals, Value.category]; done) | rfl
def Q16 (Z : State) (o0 o1 : Addr) (h0 : Heap) (n0 : Nat) (v : Option Value) (h : Heap) (L : List Loc) : Prop := v = none ∧ Fr n0 L ∧ Keep h0 h [o0] ∧ Exa Z h o0 "com/example/trusted_cut/trustedcut/program/Choice" ∧ Fld Z h o0 "com/example/trusted_cut/trustedcut/program/Choice" "unifier" "Lcom/example/trusted_cut/trustedcut/program/Unifier;" (.ref o1) ∧ Fld Z h o0 "com/example/trusted_cut/trustedcut/program/Choice" "next" "Lcom/example/trusted_cut/trustedcut/program/Choice;" .null
set_option maxRecDepth 65536 in
set_option maxHeartbeats 40000000 in
theorem rm16 (l : Launch) (Z : State) (a0 : Array Value) (hw : ∀ d ∈ tables_1, d.before a0 Z = true) (ws : List Jvm.Cond) (o0 o1 o2 : Addr) (h0 : Heap) (n0 : Nat) (Z0 : n0 ≤ h0.size) (Eo : Exa Z h0 o0 "com/example/trusted_cut/trustedcut/program/Choice") (F_unifier : Fld Z h0 o0 "com/example/trusted_cut/trustedcut/program/Choice" "unifier" "Lcom/example/trusted_cut/trustedcut/program/Unifier;" .null) (F_goals : Fld Z h0 o0 "com/example/trusted_cut/trustedcut/program/Choice" "goals" "Ljava/util/List;" .null) (F_walk : Fld Z h0 o0 "com/example/trusted_cut/trustedcut/program/Choice" "walk" "Lcom/example/trusted_cut/trustedcut/program/ClauseWalk;" .null) (F_next : Fld Z h0 o0 "com/example/trusted_cut/trustedcut/program/Choice" "next" "Lcom/example/trusted_cut/trustedcut/program/Choice;" .null) (g_o0 : n0 ≤ o0) :
    MetFree l (⟨"com/example/trusted_cut/trustedcut/program/Choice", "<init>", "(Lcom/example/trusted_cut/trustedcut/program/Unifier;Ljava/util/List;Lcom/example/trusted_cut/trustedcut/program/ClauseWalk;)V"⟩ : MethodName) (head1 (Jvm.Cond.code (⟨"com/example/trusted_cut/trustedcut/program/Choice", "<init>", "(Lcom/example/trusted_cut/trustedcut/program/Unifier;Ljava/util/List;Lcom/example/trusted_cut/trustedcut/program/ClauseWalk;)V"⟩ : MethodName) prog_42_method_1_code 4 none :: ws) ({ frames := 1, cells := 0, slots := 0, locals := 12 } : Room)) (fun a U => a = #[(.ref o0), (.ref o1), (.ref o2), .null] ∧ Z.Warmed39 U.vm ∧ U.heap = h0) (fun _ _ _ _ _ => True) (fun _ U o U' => ∃ v L, o = .returned v ∧ Q16 Z o0 o1 h0 n0 v U'.heap L ∧ FrameEnd U o U' L ({ frames := 1, cells := 0, slots := 0, locals := 12 } : Room).cells ({ frames := 1, cells := 0, slots := 0, locals := 12 } : Room).slots) := by
  refine MetFree.of_bodySF (plainFor_of_name pn_8) hisR ?_
  intro p e s m args below meth c s₁ Bd hml0 hP hK
  obtain ⟨rfl, hZ, hh⟩ := hP
  have hx := Bd.exec
  have hby := Bd.bytes
  have hml : c.maxLocals = 4 := hml0
  have hown : s.vm.findClass "com/example/trusted_cut/trustedcut/program/Choice" = some m.cls := findClass_of_methodNamed Bd.named
  have hnm := (name_of_methodNamed Bd.named Bd.method).1
  have X0 : Stand p l e ({ frames := 1, cells := 0, slots := 0, locals := 12 } : Room) s m #[(.ref o0), (.ref o1), (.ref o2), .null] below meth c s₁ [] 0 0 := Stand.of_body Bd
  have e0 : s₁.heap = h0 := by rw [← hh, Bd.state]; rfl
  have N0 := Fr.nil n0
  have pre0 : ∀ t, Steps p.tables e below (s₁.setTop (mkF m 0 #[.val (.ref o0), .val (.ref o1), .val (.ref o2), .val .null] [])) t → Steps p.tables e below (s₁.setTop (entryFrame m #[(.ref o0), (.ref o1), (.ref o2), .null] 4)) t := fun t k => castTop (ef_16 m o0 o1 o2) k
  obtain ⟨T1, X1, e1, st1⟩ := initO X0 hx hZ hown (hw _ (List.mem_of_getElem? (i := 129) rfl)) (hw _ (List.mem_of_getElem? (i := 7) rfl)) (hw _ (List.mem_of_getElem? (i := 8) rfl)) e0 (g := (mkF m 1 #[.val (.ref o0), .val (.ref o1), .val (.ref o2), .val .null] [(.ref o0)])) rfl (by rw [hml]; rfl) rfl (hb hby d16_1) (by decide) (W := 0) (by show 2 * 0 + _ ≤ _; exact Nat.le_of_eq rfl) (by decide)
  obtain ⟨T2, h2, X2, e2, W2, st2⟩ := putF X1 hx hZ hown (host := "") (Or.inl (hw _ (List.mem_of_getElem? (i := 130) rfl))) Via.refl e1 F_unifier Eo (Or.inr ⟨(hw _ (List.mem_of_getElem? (i := 131) rfl)), rfl, hnm⟩) (hw _ (List.mem_of_getElem? (i := 124) rfl)) (ty := (.object "com/example/trusted_cut/trustedcut/program/Unifier")) (by decide) rfl rfl (g := (mkF m 6 #[.val (.ref o0), .val (.ref o1), .val (.ref o2), .val .null] [(.ref o1), (.ref o0)])) rfl rfl (hb hby d16_6)
  have Fw2 := F_unifier.same W2
  have K2 : Keep h0 h2 [o0] := Keep.wr (Keep.refl h0 [o0]) W2 (Or.inl (List.mem_of_getElem? (i := 0) rfl))
  have Z2 : n0 ≤ h2.size := Nat.le_trans Z0 K2.1
  have N2 := Fr.snoc X2 N0 g_o0
  have f3 := (Eo.wr W2)
  have f4 := (F_goals.other W2 (Or.inr (slot_ne (Or.inr (hw _ (List.mem_of_getElem? (i := 133) rfl))) (Or.inr (hw _ (List.mem_of_getElem? (i := 131) rfl))) (by decide) (t := (.object "java/util/List")) (t' := (.object "com/example/trusted_cut/trustedcut/program/Unifier")) (by decide) (by decide))))
  obtain ⟨T5, h5, X5, e5, W5, st5⟩ := putF X2 hx hZ hown (host := "") (Or.inl (hw _ (List.mem_of_getElem? (i := 132) rfl))) Via.refl e2 f4 f3 (Or.inr ⟨(hw _ (List.mem_of_getElem? (i := 133) rfl)), rfl, hnm⟩) (hw _ (List.mem_of_getElem? (i := 124) rfl)) (ty := (.object "java/util/List")) (by decide) rfl rfl (g := (mkF m 11 #[.val (.ref o0), .val (.ref o1), .val (.ref o2), .val .null] [(.ref o2), (.ref o0)])) rfl rfl (hb hby d16_11)
  have Fw5 := f4.same W5
  have K5 : Keep h0 h5 [o0] := Keep.wr K2 W5 (Or.inl (List.mem_of_getElem? (i := 0) rfl))
  have Z5 : n0 ≤ h5.size := Nat.le_trans Z0 K5.1
  have N5 := Fr.snoc X5 N2 g_o0
  have f6 := (f3.wr W5)
  have f7 := ((F_walk.other W2 (Or.inr (slot_ne (Or.inr (hw _ (List.mem_of_getElem? (i := 135) rfl))) (Or.inr (hw _ (List.mem_of_getElem? (i := 131) rfl))) (by decide) (t := (.object "com/example/trusted_cut/trustedcut/program/ClauseWalk")) (t' := (.object "com/example/trusted_cut/trustedcut/program/Unifier")) (by decide) (by decide)))).other W5 (Or.inr (slot_ne (Or.inr (hw _ (List.mem_of_getElem? (i := 135) rfl))) (Or.inr (hw _ (List.mem_of_getElem? (i := 133) rfl))) (by decide) (t := (.object "com/example/trusted_cut/trustedcut/program/ClauseWalk")) (t' := (.object "java/util/List")) (by decide) (by decide))))
  obtain ⟨T8, h8, X8, e8, W8, st8⟩ := putF X5 hx hZ hown (host := "") (Or.inl (hw _ (List.mem_of_getElem? (i := 134) rfl))) Via.refl e5 f7 f6 (Or.inr ⟨(hw _ (List.mem_of_getElem? (i := 135) rfl)), rfl, hnm⟩) (hw _ (List.mem_of_getElem? (i := 124) rfl)) (ty := (.object "com/example/trusted_cut/trustedcut/program/ClauseWalk")) (by decide) rfl rfl (g := (mkF m 16 #[.val (.ref o0), .val (.ref o1), .val (.ref o2), .val .null] [.null, (.ref o0)])) rfl rfl (hb hby d16_16)
  have Fw8 := f7.same W8
  have K8 : Keep h0 h8 [o0] := Keep.wr K5 W8 (Or.inl (List.mem_of_getElem? (i := 0) rfl))
  have Z8 : n0 ≤ h8.size := Nat.le_trans Z0 K8.1
  have N8 := Fr.snoc X8 N5 g_o0
  have f9 := (f6.wr W8)
  have f10 := ((Fw2.other W5 (Or.inr (slot_ne (Or.inr (hw _ (List.mem_of_getElem? (i := 131) rfl))) (Or.inr (hw _ (List.mem_of_getElem? (i := 133) rfl))) (by decide) (t := (.object "com/example/trusted_cut/trustedcut/program/Unifier")) (t' := (.object "java/util/List")) (by decide) (by decide)))).other W8 (Or.inr (slot_ne (Or.inr (hw _ (List.mem_of_getElem? (i := 131) rfl))) (Or.inr (hw _ (List.mem_of_getElem? (i := 135) rfl))) (by decide) (t := (.object "com/example/trusted_cut/trustedcut/program/Unifier")) (t' := (.object "com/example/trusted_cut/trustedcut/program/ClauseWalk")) (by decide) (by decide))))
  have f11 := (((F_next.other W2 (Or.inr (slot_ne (Or.inl (hw _ (List.mem_of_getElem? (i := 152) rfl))) (Or.inr (hw _ (List.mem_of_getElem? (i := 131) rfl))) (by decide) (t := (.object "com/example/trusted_cut/trustedcut/program/Choice")) (t' := (.object "com/example/trusted_cut/trustedcut/program/Unifier")) (by decide) (by decide)))).other W5 (Or.inr (slot_ne (Or.inl (hw _ (List.mem_of_getElem? (i := 152) rfl))) (Or.inr (hw _ (List.mem_of_getElem? (i := 133) rfl))) (by decide) (t := (.object "com/example/trusted_cut/trustedcut/program/Choice")) (t' := (.object "java/util/List")) (by decide) (by decide)))).other W8 (Or.inr (slot_ne (Or.inl (hw _ (List.mem_of_getElem? (i := 152) rfl))) (Or.inr (hw _ (List.mem_of_getElem? (i := 135) rfl))) (by decide) (t := (.object "com/example/trusted_cut/trustedcut/program/Choice")) (t' := (.object "com/example/trusted_cut/trustedcut/program/ClauseWalk")) (by decide) (by decide))))
  obtain ⟨fs, hr, hrun, hended, hW, hsame⟩ := X8.leave (v := none) (fun _ => rfl)
  refine ⟨_, _, pre0 _ ?_, hrun, hended, _, _, rfl, ?_, ⟨_, rfl⟩, hW, hsame.mono (by decide) (by decide)⟩
  · show Steps p.tables e below (s₁.setTop (mkF m 0 #[.val (.ref o0), .val (.ref o1), .val (.ref o2), .val .null] [])) _
    refine XS.aloadN X0.here hx rfl (hb hby d16_0) rfl rfl ?_
    show Steps p.tables e below (s₁.setTop (mkF m 1 #[.val (.ref o0), .val (.ref o1), .val (.ref o2), .val .null] [(.ref o0)])) _
    refine st1 _ ?_
    show Steps p.tables e below (T1.setTop (mkF m 4 #[.val (.ref o0), .val (.ref o1), .val (.ref o2), .val .null] [])) _
    refine XS.aloadN X1.here hx rfl (hb hby d16_4) rfl rfl ?_
    show Steps p.tables e below (T1.setTop (mkF m 5 #[.val (.ref o0), .val (.ref o1), .val (.ref o2), .val .null] [(.ref o0)])) _
    refine XS.aloadN X1.here hx rfl (hb hby d16_5) rfl rfl ?_
    show Steps p.tables e below (T1.setTop (mkF m 6 #[.val (.ref o0), .val (.ref o1), .val (.ref o2), .val .null] [(.ref o1), (.ref o0)])) _
    refine st2 _ ?_
    show Steps p.tables e below (T2.setTop (mkF m 9 #[.val (.ref o0), .val (.ref o1), .val (.ref o2), .val .null] [])) _
    refine XS.aloadN X2.here hx rfl (hb hby d16_9) rfl rfl ?_
    show Steps p.tables e below (T2.setTop (mkF m 10 #[.val (.ref o0), .val (.ref o1), .val (.ref o2), .val .null] [(.ref o0)])) _
    refine XS.aloadN X2.here hx rfl (hb hby d16_10) rfl rfl ?_
    show Steps p.tables e below (T2.setTop (mkF m 11 #[.val (.ref o0), .val (.ref o1), .val (.ref o2), .val .null] [(.ref o2), (.ref o0)])) _
    refine st5 _ ?_
    show Steps p.tables e below (T5.setTop (mkF m 14 #[.val (.ref o0), .val (.ref o1), .val (.ref o2), .val .null] [])) _
    refine XS.aloadN X5.here hx rfl (hb hby d16_14) rfl rfl ?_
    show Steps p.tables e below (T5.setTop (mkF m 15 #[.val (.ref o0), .val (.ref o1), .val (.ref o2), .val .null] [(.ref o0)])) _
    refine XS.aloadN X5.here hx rfl (hb hby d16_15) rfl rfl ?_
    show Steps p.tables e below (T5.setTop (mkF m 16 #[.val (.ref o0), .val (.ref o1), .val (.ref o2), .val .null] [.null, (.ref o0)])) _
    refine st8 _ ?_
    show Steps p.tables e below (T8.setTop (mkF m 19 #[.val (.ref o0), .val (.ref o1), .val (.ref o2), .val .null] [])) _
    exact X8.returnOut hx Bd.returns (hb hby d16_19) hr
  · show Q16 Z o0 o1 h0 n0 _ T8.heap _
    rw [e8]
    exact ⟨rfl, N8, K8, f9, f10, f11⟩
theorem d17_0 : decode prog_42_method_2_code 0 = .ok (.aload_n 0, 1) := by decide +kernel
theorem d17_1 : decode prog_42_method_2_code 1 = .ok (.getfield 7, 3) := by decide +kernel
theorem d17_4 : decode prog_42_method_2_code 4 = .ok (.areturn, 1) := by decide +kernel
theorem ef_17 (m : MethodId) (o0 : Addr) : entryFrame m #[(.ref o0)] 1 = mkF m 0 #[.val (.ref o0)] [] := by first | (simp [entryFrame, mkF, argsToLocals, Value.category]; done) | rfl
def Q17 (u : Addr) (h0 : Heap) (n0 : Nat) (v : Option Value) (h : Heap) (L : List Loc) : Prop := v = some (.ref u) ∧ Fr n0 L ∧ h = h0
set_option maxRecDepth 65536 in
set_option maxHeartbeats 40000000 in
theorem rm17 (l : Launch) (Z : State) (a0 : Array Value) (hw : ∀ d ∈ tables_1, d.before a0 Z = true) (ws : List Jvm.Cond) (o0 u : Addr) (h0 : Heap) (n0 : Nat) (Z0 : n0 ≤ h0.size) (Fu : Fld Z h0 o0 "com/example/trusted_cut/trustedcut/program/Choice" "unifier" "Lcom/example/trusted_cut/trustedcut/program/Unifier;" (.ref u)) :
    MetFree l (⟨"com/example/trusted_cut/trustedcut/program/Choice", "unifier", "()Lcom/example/trusted_cut/trustedcut/program/Unifier;"⟩ : MethodName) (head1 (Jvm.Cond.code (⟨"com/example/trusted_cut/trustedcut/program/Choice", "unifier", "()Lcom/example/trusted_cut/trustedcut/program/Unifier;"⟩ : MethodName) prog_42_method_2_code 1 (some (.object "com/example/trusted_cut/trustedcut/program/Unifier")) :: ws) ({ frames := 0, cells := 0, slots := 0, locals := 0 } : Room)) (fun a U => a = #[(.ref o0)] ∧ Z.Warmed39 U.vm ∧ U.heap = h0) (fun _ _ _ _ _ => True) (fun _ U o U' => ∃ v L, o = .returned v ∧ Q17 u h0 n0 v U'.heap L ∧ FrameEnd U o U' L ({ frames := 0, cells := 0, slots := 0, locals := 0 } : Room).cells ({ frames := 0, cells := 0, slots := 0, locals := 0 } : Room).slots) := by
  refine MetFree.of_bodySF (plainFor_of_name pn_8) hisR ?_
  intro p e s m args below meth c s₁ Bd hml0 hP hK
  obtain ⟨rfl, hZ, hh⟩ := hP
  have hx := Bd.exec
  have hby := Bd.bytes
  have hml : c.maxLocals = 1 := hml0
  have hown : s.vm.findClass "com/example/trusted_cut/trustedcut/program/Choice" = some m.cls := findClass_of_methodNamed Bd.named
  have hnm := (name_of_methodNamed Bd.named Bd.method).1
  have X0 : Stand p l e ({ frames := 0, cells := 0, slots := 0, locals := 0 } : Room) s m #[(.ref o0)] below meth c s₁ [] 0 0 := Stand.of_body Bd
  have e0 : s₁.heap = h0 := by rw [← hh, Bd.state]; rfl
  have N0 := Fr.nil n0
  have pre0 : ∀ t, Steps p.tables e below (s₁.setTop (mkF m 0 #[.val (.ref o0)] [])) t → Steps p.tables e below (s₁.setTop (entryFrame m #[(.ref o0)] 1)) t := fun t k => castTop (ef_17 m o0) k
  obtain ⟨T1, X1, e1, st1⟩ := getF X0 hx hZ hown (host := "") (Or.inl (hw _ (List.mem_of_getElem? (i := 130) rfl))) Via.refl e0 Fu (g := (mkF m 1 #[.val (.ref o0)] [(.ref o0)])) rfl rfl (hb hby d17_1)
  obtain ⟨fs, hr, hrun, hended, hW, hsame⟩ := X1.leave (v := some (.ref u)) (fun h => by rw [Bd.returns] at h; cases h)
  refine ⟨_, _, pre0 _ ?_, hrun, hended, _, _, rfl, ?_, ⟨_, rfl⟩, hW, hsame.mono (by decide) (by decide)⟩
  · show Steps p.tables e below (s₁.setTop (mkF m 0 #[.val (.ref o0)] [])) _
    refine XS.aloadN X0.here hx rfl (hb hby d17_0) rfl rfl ?_
    show Steps p.tables e below (s₁.setTop (mkF m 1 #[.val (.ref o0)] [(.ref o0)])) _
    refine st1 _ ?_
    show Steps p.tables e below (T1.setTop (mkF m 4 #[.val (.ref o0)] [(.ref u)])) _
    exact retOut X1 hx (i := .areturn) Bd.returns rfl (Or.inr (Or.inr (Or.inr (Or.inr ⟨rfl, rfl, rfl⟩)))) (hb hby d17_4) hr
  · show Q17 u h0 n0 _ T1.heap _
    rw [e1]
    exact ⟨rfl, N0, rfl⟩
theorem d18_0 : decode prog_90_method_4_code 0 = .ok (.aload_n 0, 1) := by decide +kernel
theorem d18_1 : decode prog_90_method_4_code 1 = .ok (.aload_n 1, 1) := by decide +kernel
theorem d18_2 : decode prog_90_method_4_code 2 = .ok (.getfield 7, 3) := by decide +kernel
theorem d18_5 : decode prog_90_method_4_code 5 = .ok (.putfield 7, 3) := by decide +kernel
theorem d18_8 : decode prog_90_method_4_code 8 = .ok (.aload_n 0, 1) := by decide +kernel
theorem d18_9 : decode prog_90_method_4_code 9 = .ok (.areturn, 1) := by decide +kernel
theorem ef_18 (m : MethodId) (o0 : Addr) : entryFrame m #[(.ref o0), (.ref o0)] 2 = mkF m 0 #[.val (.ref o0), .val (.ref o0)] [] := by first | (simp [entryFrame, mkF, argsToLocals, Value.category]; done) | rfl
def Q18 (Z : State) (o0 k : Addr) (h0 : Heap) (n0 : Nat) (v : Option Value) (h : Heap) (L : List Loc) : Prop := v = some (.ref o0) ∧ Fr n0 L ∧ Keep h0 h [o0] ∧ Exa Z h o0 "com/example/trusted_cut/trustedcut/program/Unifier" ∧ Fld Z h o0 "com/example/trusted_cut/trustedcut/program/Unifier" "marked" "Lcom/example/trusted_cut/trustedcut/program/Unifier;" (.ref k)
set_option maxRecDepth 65536 in
set_option maxHeartbeats 40000000 in
theorem rm18 (l : Launch) (Z : State) (a0 : Array Value) (hw : ∀ d ∈ tables_1, d.before a0 Z = true) (ws : List Jvm.Cond) (o0 k : Addr) (h0 : Heap) (n0 : Nat) (Z0 : n0 ≤ h0.size) (Eo : Exa Z h0 o0 "com/example/trusted_cut/trustedcut/program/Unifier") (F1 : Fld Z h0 o0 "com/example/trusted_cut/trustedcut/program/Unifier" "marked" "Lcom/example/trusted_cut/trustedcut/program/Unifier;" (.ref k)) (g_o0 : n0 ≤ o0) :
    MetFree l (⟨"com/example/trusted_cut/trustedcut/program/Unifier", "sharingMarkOf", "(Lcom/example/trusted_cut/trustedcut/program/Unifier;)Lcom/example/trusted_cut/trustedcut/program/Unifier;"⟩ : MethodName) (head1 (Jvm.Cond.code (⟨"com/example/trusted_cut/trustedcut/program/Unifier", "sharingMarkOf", "(Lcom/example/trusted_cut/trustedcut/program/Unifier;)Lcom/example/trusted_cut/trustedcut/program/Unifier;"⟩ : MethodName) prog_90_method_4_code 2 (some (.object "com/example/trusted_cut/trustedcut/program/Unifier")) :: ws) ({ frames := 0, cells := 0, slots := 0, locals := 0 } : Room)) (fun a U => a = #[(.ref o0), (.ref o0)] ∧ Z.Warmed39 U.vm ∧ U.heap = h0) (fun _ _ _ _ _ => True) (fun _ U o U' => ∃ v L, o = .returned v ∧ Q18 Z o0 k h0 n0 v U'.heap L ∧ FrameEnd U o U' L ({ frames := 0, cells := 0, slots := 0, locals := 0 } : Room).cells ({ frames := 0, cells := 0, slots := 0, locals := 0 } : Room).slots) := by
  refine MetFree.of_bodySF (plainFor_of_name pn_7) hisR ?_
  intro p e s m args below meth c s₁ Bd hml0 hP hK
  obtain ⟨rfl, hZ, hh⟩ := hP
  have hx := Bd.exec
  have hby := Bd.bytes
  have hml : c.maxLocals = 2 := hml0
  have hown : s.vm.findClass "com/example/trusted_cut/trustedcut/program/Unifier" = some m.cls := findClass_of_methodNamed Bd.named
  have hnm := (name_of_methodNamed Bd.named Bd.method).1
  have X0 : Stand p l e ({ frames := 0, cells := 0, slots := 0, locals := 0 } : Room) s m #[(.ref o0), (.ref o0)] below meth c s₁ [] 0 0 := Stand.of_body Bd
  have e0 : s₁.heap = h0 := by rw [← hh, Bd.state]; rfl
  have N0 := Fr.nil n0
  have pre0 : ∀ t, Steps p.tables e below (s₁.setTop (mkF m 0 #[.val (.ref o0), .val (.ref o0)] [])) t → Steps p.tables e below (s₁.setTop (entryFrame m #[(.ref o0), (.ref o0)] 2)) t := fun t k => castTop (ef_18 m o0) k
  obtain ⟨T1, X1, e1, st1⟩ := getF X0 hx hZ hown (host := "") (Or.inl (hw _ (List.mem_of_getElem? (i := 75) rfl))) Via.refl e0 F1 (g := (mkF m 2 #[.val (.ref o0), .val (.ref o0)] [(.ref o0), (.ref o0)])) rfl rfl (hb hby d18_2)
  obtain ⟨T2, h2, X2, e2, W2, st2⟩ := putF X1 hx hZ hown (host := "") (Or.inl (hw _ (List.mem_of_getElem? (i := 75) rfl))) Via.refl e1 F1 Eo (Or.inl (hw _ (List.mem_of_getElem? (i := 76) rfl))) (hw _ (List.mem_of_getElem? (i := 67) rfl)) (ty := (.object "com/example/trusted_cut/trustedcut/program/Unifier")) (by decide) rfl rfl (g := (mkF m 5 #[.val (.ref o0), .val (.ref o0)] [(.ref k), (.ref o0)])) rfl rfl (hb hby d18_5)
  have Fw2 := F1.same W2
  have K2 : Keep h0 h2 [o0] := Keep.wr (Keep.refl h0 [o0]) W2 (Or.inl (List.mem_of_getElem? (i := 0) rfl))
  have Z2 : n0 ≤ h2.size := Nat.le_trans Z0 K2.1
  have N2 := Fr.snoc X2 N0 g_o0
  have f3 := (Eo.wr W2)
  obtain ⟨fs, hr, hrun, hended, hW, hsame⟩ := X2.leave (v := some (.ref o0)) (fun h => by rw [Bd.returns] at h; cases h)
  refine ⟨_, _, pre0 _ ?_, hrun, hended, _, _, rfl, ?_, ⟨_, rfl⟩, hW, hsame.mono (by decide) (by decide)⟩
  · show Steps p.tables e below (s₁.setTop (mkF m 0 #[.val (.ref o0), .val (.ref o0)] [])) _
    refine XS.aloadN X0.here hx rfl (hb hby d18_0) rfl rfl ?_
    show Steps p.tables e below (s₁.setTop (mkF m 1 #[.val (.ref o0), .val (.ref o0)] [(.ref o0)])) _
    refine XS.aloadN X0.here hx rfl (hb hby d18_1) rfl rfl ?_
    show Steps p.tables e below (s₁.setTop (mkF m 2 #[.val (.ref o0), .val (.ref o0)] [(.ref o0), (.ref o0)])) _
    refine st1 _ ?_
    show Steps p.tables e below (T1.setTop (mkF m 5 #[.val (.ref o0), .val (.ref o0)] [(.ref k), (.ref o0)])) _
    refine st2 _ ?_
    show Steps p.tables e below (T2.setTop (mkF m 8 #[.val (.ref o0), .val (.ref o0)] [])) _
    refine XS.aloadN X2.here hx rfl (hb hby d18_8) rfl rfl ?_
    show Steps p.tables e below (T2.setTop (mkF m 9 #[.val (.ref o0), .val (.ref o0)] [(.ref o0)])) _
    exact retOut X2 hx (i := .areturn) Bd.returns rfl (Or.inr (Or.inr (Or.inr (Or.inr ⟨rfl, rfl, rfl⟩)))) (hb hby d18_9) hr
  · show Q18 Z o0 k h0 n0 _ T2.heap _
    rw [e2]
    exact ⟨rfl, N2, K2, f3, Fw2⟩
theorem d19_0 : decode prog_42_method_7_code 0 = .ok (.aload_n 0, 1) := by decide +kernel
theorem d19_1 : decode prog_42_method_7_code 1 = .ok (.aload_n 1, 1) := by decide +kernel
theorem d19_2 : decode prog_42_method_7_code 2 = .ok (.putfield 31, 3) := by decide +kernel
theorem d19_5 : decode prog_42_method_7_code 5 = .ok (.return_, 1) := by decide +kernel
theorem ef_19 (m : MethodId) (o0 : Addr) (o1 : Addr) : entryFrame m #[(.ref o0), (.ref o1)] 2 = mkF m 0 #[.val (.ref o0), .val (.ref o1)] [] := by first | (simp [entryFrame, mkF, argsToLocals, Value.category]; done) | rfl
def Q19 (Z : State) (o0 : Addr) (h0 : Heap) (n0 : Nat) (v : Option Value) (h : Heap) (L : List Loc) : Prop := v = none ∧ Fr n0 L ∧ Keep h0 h [o0] ∧ Exa Z h o0 "com/example/trusted_cut/trustedcut/program/Choice"
set_option maxRecDepth 65536 in
set_option maxHeartbeats 40000000 in
theorem rm19 (l : Launch) (Z : State) (a0 : Array Value) (hw : ∀ d ∈ tables_1, d.before a0 Z = true) (ws : List Jvm.Cond) (o0 o1 : Addr) (h0 : Heap) (n0 : Nat) (Z0 : n0 ≤ h0.size) (Eo : Exa Z h0 o0 "com/example/trusted_cut/trustedcut/program/Choice") (Fn : Fld Z h0 o0 "com/example/trusted_cut/trustedcut/program/Choice" "next" "Lcom/example/trusted_cut/trustedcut/program/Choice;" .null) (g_o0 : n0 ≤ o0) :
    MetFree l (⟨"com/example/trusted_cut/trustedcut/program/Choice", "follow", "(Lcom/example/trusted_cut/trustedcut/program/Choice;)V"⟩ : MethodName) (head1 (Jvm.Cond.code (⟨"com/example/trusted_cut/trustedcut/program/Choice", "follow", "(Lcom/example/trusted_cut/trustedcut/program/Choice;)V"⟩ : MethodName) prog_42_method_7_code 2 none :: ws) ({ frames := 0, cells := 0, slots := 0, locals := 0 } : Room)) (fun a U => a = #[(.ref o0), (.ref o1)] ∧ Z.Warmed39 U.vm ∧ U.heap = h0) (fun _ _ _ _ _ => True) (fun _ U o U' => ∃ v L, o = .returned v ∧ Q19 Z o0 h0 n0 v U'.heap L ∧ FrameEnd U o U' L ({ frames := 0, cells := 0, slots := 0, locals := 0 } : Room).cells ({ frames := 0, cells := 0, slots := 0, locals := 0 } : Room).slots) := by
  refine MetFree.of_bodySF (plainFor_of_name pn_8) hisR ?_
  intro p e s m args below meth c s₁ Bd hml0 hP hK
  obtain ⟨rfl, hZ, hh⟩ := hP
  have hx := Bd.exec
  have hby := Bd.bytes
  have hml : c.maxLocals = 2 := hml0
  have hown : s.vm.findClass "com/example/trusted_cut/trustedcut/program/Choice" = some m.cls := findClass_of_methodNamed Bd.named
  have hnm := (name_of_methodNamed Bd.named Bd.method).1
  have X0 : Stand p l e ({ frames := 0, cells := 0, slots := 0, locals := 0 } : Room) s m #[(.ref o0), (.ref o1)] below meth c s₁ [] 0 0 := Stand.of_body Bd
  have e0 : s₁.heap = h0 := by rw [← hh, Bd.state]; rfl
  have N0 := Fr.nil n0
  have pre0 : ∀ t, Steps p.tables e below (s₁.setTop (mkF m 0 #[.val (.ref o0), .val (.ref o1)] [])) t → Steps p.tables e below (s₁.setTop (entryFrame m #[(.ref o0), (.ref o1)] 2)) t := fun t k => castTop (ef_19 m o0 o1) k
  obtain ⟨T1, h1, X1, e1, W1, st1⟩ := putF X0 hx hZ hown (host := "") (Or.inl (hw _ (List.mem_of_getElem? (i := 151) rfl))) Via.refl e0 Fn Eo (Or.inl (hw _ (List.mem_of_getElem? (i := 152) rfl))) (hw _ (List.mem_of_getElem? (i := 124) rfl)) (ty := (.object "com/example/trusted_cut/trustedcut/program/Choice")) (by decide) rfl rfl (g := (mkF m 2 #[.val (.ref o0), .val (.ref o1)] [(.ref o1), (.ref o0)])) rfl rfl (hb hby d19_2)
  have Fw1 := Fn.same W1
  have K1 : Keep h0 h1 [o0] := Keep.wr (Keep.refl h0 [o0]) W1 (Or.inl (List.mem_of_getElem? (i := 0) rfl))
  have Z1 : n0 ≤ h1.size := Nat.le_trans Z0 K1.1
  have N1 := Fr.snoc X1 N0 g_o0
  have f2 := (Eo.wr W1)
  obtain ⟨fs, hr, hrun, hended, hW, hsame⟩ := X1.leave (v := none) (fun _ => rfl)
  refine ⟨_, _, pre0 _ ?_, hrun, hended, _, _, rfl, ?_, ⟨_, rfl⟩, hW, hsame.mono (by decide) (by decide)⟩
  · show Steps p.tables e below (s₁.setTop (mkF m 0 #[.val (.ref o0), .val (.ref o1)] [])) _
    refine XS.aloadN X0.here hx rfl (hb hby d19_0) rfl rfl ?_
    show Steps p.tables e below (s₁.setTop (mkF m 1 #[.val (.ref o0), .val (.ref o1)] [(.ref o0)])) _
    refine XS.aloadN X0.here hx rfl (hb hby d19_1) rfl rfl ?_
    show Steps p.tables e below (s₁.setTop (mkF m 2 #[.val (.ref o0), .val (.ref o1)] [(.ref o1), (.ref o0)])) _
    refine st1 _ ?_
    show Steps p.tables e below (T1.setTop (mkF m 5 #[.val (.ref o0), .val (.ref o1)] [])) _
    exact X1.returnOut hx Bd.returns (hb hby d19_5) hr
  · show Q19 Z o0 h0 n0 _ T1.heap _
    rw [e1]
    exact ⟨rfl, N1, K1, f2⟩
theorem dA0_0 : decode prog_73_method_5_code 0 = .ok (.aload_n 0, 1) := by decide +kernel
theorem dA0_1 : decode prog_73_method_5_code 1 = .ok (.getfield 7, 3) := by decide +kernel
theorem dA0_4 : decode prog_73_method_5_code 4 = .ok (.ifCond .ne 16, 3) := by decide +kernel
theorem dA0_7 : decode prog_73_method_5_code 7 = .ok (.aload_n 0, 1) := by decide +kernel
theorem dA0_8 : decode prog_73_method_5_code 8 = .ok (.aload_n 1, 1) := by decide +kernel
theorem dA0_9 : decode prog_73_method_5_code 9 = .ok (.putfield 21, 3) := by decide +kernel
theorem dA0_12 : decode prog_73_method_5_code 12 = .ok (.aload_n 0, 1) := by decide +kernel
theorem dA0_13 : decode prog_73_method_5_code 13 = .ok (.aload_n 2, 1) := by decide +kernel
theorem dA0_14 : decode prog_73_method_5_code 14 = .ok (.putfield 13, 3) := by decide +kernel
theorem dA0_17 : decode prog_73_method_5_code 17 = .ok (.goto 70, 3) := by decide +kernel
theorem dA0_87 : decode prog_73_method_5_code 87 = .ok (.aload_n 0, 1) := by decide +kernel
theorem dA0_88 : decode prog_73_method_5_code 88 = .ok (.dup, 1) := by decide +kernel
theorem dA0_89 : decode prog_73_method_5_code 89 = .ok (.getfield 7, 3) := by decide +kernel
theorem dA0_92 : decode prog_73_method_5_code 92 = .ok (.iconst 1, 1) := by decide +kernel
theorem dA0_93 : decode prog_73_method_5_code 93 = .ok (.iadd, 1) := by decide +kernel
theorem dA0_94 : decode prog_73_method_5_code 94 = .ok (.putfield 7, 3) := by decide +kernel
theorem dA0_97 : decode prog_73_method_5_code 97 = .ok (.return_, 1) := by decide +kernel
theorem ef_A0 (m : MethodId) (o0 : Addr) (o1 : Addr) (o2 : Addr) : entryFrame m #[(.ref o0), (.ref o1), (.ref o2)] 4 = mkF m 0 #[.val (.ref o0), .val (.ref o1), .val (.ref o2), .unset] [] := by first | (simp [entryFrame, mkF, argsToLocals, Value.category]; done) | rfl
def QA0 (Z : State) (o0 o1 o2 : Addr) (h0 : Heap) (n0 : Nat) (v : Option Value) (h : Heap) (L : List Loc) : Prop := v = none ∧ Fr n0 L ∧ Keep h0 h [o0] ∧ Exa Z h o0 "com/example/trusted_cut/trustedcut/program/Selections" ∧ Fld Z h o0 "com/example/trusted_cut/trustedcut/program/Selections" "size" "I" (.int (1 : Int32)) ∧ Fld Z h o0 "com/example/trusted_cut/trustedcut/program/Selections" "firstUnifier" "Lcom/example/trusted_cut/trustedcut/program/Unifier;" (.ref o1) ∧ Fld Z h o0 "com/example/trusted_cut/trustedcut/program/Selections" "firstGoals" "Ljava/util/List;" (.ref o2) ∧ Fld Z h o0 "com/example/trusted_cut/trustedcut/program/Selections" "more" "Lcom/example/trusted_cut/trustedcut/program/Choice;" .null ∧ Fld Z h o0 "com/example/trusted_cut/trustedcut/program/Selections" "last" "Lcom/example/trusted_cut/trustedcut/program/Choice;" .null
set_option maxRecDepth 65536 in
set_option maxHeartbeats 40000000 in
theorem rmA0 (l : Launch) (Z : State) (a0 : Array Value) (hw : ∀ d ∈ tables_1, d.before a0 Z = true) (ws : List Jvm.Cond) (o0 o1 o2 : Addr) (h0 : Heap) (n0 : Nat) (Z0 : n0 ≤ h0.size) (Eo : Exa Z h0 o0 "com/example/trusted_cut/trustedcut/program/Selections") (F_size : Fld Z h0 o0 "com/example/trusted_cut/trustedcut/program/Selections" "size" "I" (.int (0 : Int32))) (F_firstUnifier : Fld Z h0 o0 "com/example/trusted_cut/trustedcut/program/Selections" "firstUnifier" "Lcom/example/trusted_cut/trustedcut/program/Unifier;" .null) (F_firstGoals : Fld Z h0 o0 "com/example/trusted_cut/trustedcut/program/Selections" "firstGoals" "Ljava/util/List;" .null) (F_more : Fld Z h0 o0 "com/example/trusted_cut/trustedcut/program/Selections" "more" "Lcom/example/trusted_cut/trustedcut/program/Choice;" .null) (F_last : Fld Z h0 o0 "com/example/trusted_cut/trustedcut/program/Selections" "last" "Lcom/example/trusted_cut/trustedcut/program/Choice;" .null) (g_o0 : n0 ≤ o0) :
    MetFree l (⟨"com/example/trusted_cut/trustedcut/program/Selections", "add", "(Lcom/example/trusted_cut/trustedcut/program/Unifier;Ljava/util/List;)V"⟩ : MethodName) (head1 (Jvm.Cond.code (⟨"com/example/trusted_cut/trustedcut/program/Selections", "add", "(Lcom/example/trusted_cut/trustedcut/program/Unifier;Ljava/util/List;)V"⟩ : MethodName) prog_73_method_5_code 4 none :: ws) ({ frames := 0, cells := 0, slots := 0, locals := 0 } : Room)) (fun a U => a = #[(.ref o0), (.ref o1), (.ref o2)] ∧ Z.Warmed39 U.vm ∧ U.heap = h0) (fun _ _ _ _ _ => True) (fun _ U o U' => ∃ v L, o = .returned v ∧ QA0 Z o0 o1 o2 h0 n0 v U'.heap L ∧ FrameEnd U o U' L ({ frames := 0, cells := 0, slots := 0, locals := 0 } : Room).cells ({ frames := 0, cells := 0, slots := 0, locals := 0 } : Room).slots) := by
  refine MetFree.of_bodySF (plainFor_of_name pn_0) hisR ?_
  intro p e s m args below meth c s₁ Bd hml0 hP hK
  obtain ⟨rfl, hZ, hh⟩ := hP
  have hx := Bd.exec
  have hby := Bd.bytes
  have hml : c.maxLocals = 4 := hml0
  have hown : s.vm.findClass "com/example/trusted_cut/trustedcut/program/Selections" = some m.cls := findClass_of_methodNamed Bd.named
  have hnm := (name_of_methodNamed Bd.named Bd.method).1
  have X0 : Stand p l e ({ frames := 0, cells := 0, slots := 0, locals := 0 } : Room) s m #[(.ref o0), (.ref o1), (.ref o2)] below meth c s₁ [] 0 0 := Stand.of_body Bd
  have e0 : s₁.heap = h0 := by rw [← hh, Bd.state]; rfl
  have N0 := Fr.nil n0
  have pre0 : ∀ t, Steps p.tables e below (s₁.setTop (mkF m 0 #[.val (.ref o0), .val (.ref o1), .val (.ref o2), .unset] [])) t → Steps p.tables e below (s₁.setTop (entryFrame m #[(.ref o0), (.ref o1), (.ref o2)] 4)) t := fun t k => castTop (ef_A0 m o0 o1 o2) k
  obtain ⟨T1, X1, e1, st1⟩ := getF X0 hx hZ hown (host := "") (Or.inl (hw _ (List.mem_of_getElem? (i := 86) rfl))) Via.refl e0 F_size (g := (mkF m 1 #[.val (.ref o0), .val (.ref o1), .val (.ref o2), .unset] [(.ref o0)])) rfl rfl (hb hby dA0_1)
  obtain ⟨T2, h2, X2, e2, W2, st2⟩ := putF X1 hx hZ hown (host := "") (Or.inl (hw _ (List.mem_of_getElem? (i := 88) rfl))) Via.refl e1 F_firstUnifier Eo (Or.inl (hw _ (List.mem_of_getElem? (i := 89) rfl))) (hw _ (List.mem_of_getElem? (i := 1) rfl)) (ty := (.object "com/example/trusted_cut/trustedcut/program/Unifier")) (by decide) rfl rfl (g := (mkF m 9 #[.val (.ref o0), .val (.ref o1), .val (.ref o2), .unset] [(.ref o1), (.ref o0)])) rfl rfl (hb hby dA0_9)
  have Fw2 := F_firstUnifier.same W2
  have K2 : Keep h0 h2 [o0] := Keep.wr (Keep.refl h0 [o0]) W2 (Or.inl (List.mem_of_getElem? (i := 0) rfl))
  have Z2 : n0 ≤ h2.size := Nat.le_trans Z0 K2.1
  have N2 := Fr.snoc X2 N0 g_o0
  have f3 := (Eo.wr W2)
  have f4 := (F_firstGoals.other W2 (Or.inr (slot_ne (Or.inl (hw _ (List.mem_of_getElem? (i := 91) rfl))) (Or.inl (hw _ (List.mem_of_getElem? (i := 89) rfl))) (by decide) (t := (.object "java/util/List")) (t' := (.object "com/example/trusted_cut/trustedcut/program/Unifier")) (by decide) (by decide))))
  obtain ⟨T5, h5, X5, e5, W5, st5⟩ := putF X2 hx hZ hown (host := "") (Or.inl (hw _ (List.mem_of_getElem? (i := 90) rfl))) Via.refl e2 f4 f3 (Or.inl (hw _ (List.mem_of_getElem? (i := 91) rfl))) (hw _ (List.mem_of_getElem? (i := 1) rfl)) (ty := (.object "java/util/List")) (by decide) rfl rfl (g := (mkF m 14 #[.val (.ref o0), .val (.ref o1), .val (.ref o2), .unset] [(.ref o2), (.ref o0)])) rfl rfl (hb hby dA0_14)
  have Fw5 := f4.same W5
  have K5 : Keep h0 h5 [o0] := Keep.wr K2 W5 (Or.inl (List.mem_of_getElem? (i := 0) rfl))
  have Z5 : n0 ≤ h5.size := Nat.le_trans Z0 K5.1
  have N5 := Fr.snoc X5 N2 g_o0
  have f6 := ((F_size.other W2 (Or.inr (slot_ne (Or.inl (hw _ (List.mem_of_getElem? (i := 87) rfl))) (Or.inl (hw _ (List.mem_of_getElem? (i := 89) rfl))) (by decide) (t := .int) (t' := (.object "com/example/trusted_cut/trustedcut/program/Unifier")) (by decide) (by decide)))).other W5 (Or.inr (slot_ne (Or.inl (hw _ (List.mem_of_getElem? (i := 87) rfl))) (Or.inl (hw _ (List.mem_of_getElem? (i := 91) rfl))) (by decide) (t := .int) (t' := (.object "java/util/List")) (by decide) (by decide))))
  obtain ⟨T7, X7, e7, st7⟩ := getF X5 hx hZ hown (host := "") (Or.inl (hw _ (List.mem_of_getElem? (i := 86) rfl))) Via.refl e5 f6 (g := (mkF m 89 #[.val (.ref o0), .val (.ref o1), .val (.ref o2), .unset] [(.ref o0), (.ref o0)])) rfl rfl (hb hby dA0_89)
  have f8 := (f3.wr W5)
  obtain ⟨T9, h9, X9, e9, W9, st9⟩ := putF X7 hx hZ hown (host := "") (Or.inl (hw _ (List.mem_of_getElem? (i := 86) rfl))) Via.refl e7 f6 f8 (Or.inl (hw _ (List.mem_of_getElem? (i := 87) rfl))) (hw _ (List.mem_of_getElem? (i := 1) rfl)) (ty := .int) (by decide) rfl rfl (g := (mkF m 94 #[.val (.ref o0), .val (.ref o1), .val (.ref o2), .unset] [(.int (1 : Int32)), (.ref o0)])) rfl rfl (hb hby dA0_94)
  have Fw9 := f6.same W9
  have K9 : Keep h0 h9 [o0] := Keep.wr K5 W9 (Or.inl (List.mem_of_getElem? (i := 0) rfl))
  have Z9 : n0 ≤ h9.size := Nat.le_trans Z0 K9.1
  have N9 := Fr.snoc X9 N5 g_o0
  have f10 := (f8.wr W9)
  have f11 := ((Fw2.other W5 (Or.inr (slot_ne (Or.inl (hw _ (List.mem_of_getElem? (i := 89) rfl))) (Or.inl (hw _ (List.mem_of_getElem? (i := 91) rfl))) (by decide) (t := (.object "com/example/trusted_cut/trustedcut/program/Unifier")) (t' := (.object "java/util/List")) (by decide) (by decide)))).other W9 (Or.inr (slot_ne (Or.inl (hw _ (List.mem_of_getElem? (i := 89) rfl))) (Or.inl (hw _ (List.mem_of_getElem? (i := 87) rfl))) (by decide) (t := (.object "com/example/trusted_cut/trustedcut/program/Unifier")) (t' := .int) (by decide) (by decide))))
  have f12 := (Fw5.other W9 (Or.inr (slot_ne (Or.inl (hw _ (List.mem_of_getElem? (i := 91) rfl))) (Or.inl (hw _ (List.mem_of_getElem? (i := 87) rfl))) (by decide) (t := (.object "java/util/List")) (t' := .int) (by decide) (by decide))))
  have f13 := (((F_more.other W2 (Or.inr (slot_ne (Or.inl (hw _ (List.mem_of_getElem? (i := 93) rfl))) (Or.inl (hw _ (List.mem_of_getElem? (i := 89) rfl))) (by decide) (t := (.object "com/example/trusted_cut/trustedcut/program/Choice")) (t' := (.object "com/example/trusted_cut/trustedcut/program/Unifier")) (by decide) (by decide)))).other W5 (Or.inr (slot_ne (Or.inl (hw _ (List.mem_of_getElem? (i := 93) rfl))) (Or.inl (hw _ (List.mem_of_getElem? (i := 91) rfl))) (by decide) (t := (.object "com/example/trusted_cut/trustedcut/program/Choice")) (t' := (.object "java/util/List")) (by decide) (by decide)))).other W9 (Or.inr (slot_ne (Or.inl (hw _ (List.mem_of_getElem? (i := 93) rfl))) (Or.inl (hw _ (List.mem_of_getElem? (i := 87) rfl))) (by decide) (t := (.object "com/example/trusted_cut/trustedcut/program/Choice")) (t' := .int) (by decide) (by decide))))
  have f14 := (((F_last.other W2 (Or.inr (slot_ne (Or.inl (hw _ (List.mem_of_getElem? (i := 95) rfl))) (Or.inl (hw _ (List.mem_of_getElem? (i := 89) rfl))) (by decide) (t := (.object "com/example/trusted_cut/trustedcut/program/Choice")) (t' := (.object "com/example/trusted_cut/trustedcut/program/Unifier")) (by decide) (by decide)))).other W5 (Or.inr (slot_ne (Or.inl (hw _ (List.mem_of_getElem? (i := 95) rfl))) (Or.inl (hw _ (List.mem_of_getElem? (i := 91) rfl))) (by decide) (t := (.object "com/example/trusted_cut/trustedcut/program/Choice")) (t' := (.object "java/util/List")) (by decide) (by decide)))).other W9 (Or.inr (slot_ne (Or.inl (hw _ (List.mem_of_getElem? (i := 95) rfl))) (Or.inl (hw _ (List.mem_of_getElem? (i := 87) rfl))) (by decide) (t := (.object "com/example/trusted_cut/trustedcut/program/Choice")) (t' := .int) (by decide) (by decide))))
  obtain ⟨fs, hr, hrun, hended, hW, hsame⟩ := X9.leave (v := none) (fun _ => rfl)
  refine ⟨_, _, pre0 _ ?_, hrun, hended, _, _, rfl, ?_, ⟨_, rfl⟩, hW, hsame.mono (by decide) (by decide)⟩
  · show Steps p.tables e below (s₁.setTop (mkF m 0 #[.val (.ref o0), .val (.ref o1), .val (.ref o2), .unset] [])) _
    refine XS.aloadN X0.here hx rfl (hb hby dA0_0) rfl rfl ?_
    show Steps p.tables e below (s₁.setTop (mkF m 1 #[.val (.ref o0), .val (.ref o1), .val (.ref o2), .unset] [(.ref o0)])) _
    refine st1 _ ?_
    show Steps p.tables e below (T1.setTop (mkF m 4 #[.val (.ref o0), .val (.ref o1), .val (.ref o2), .unset] [(.int (0 : Int32))])) _
    refine XS.ifNo X1.here hx rfl (hb hby dA0_4) rfl ((if0 _ _).trans (teq (show (0 : Int32) = (0 : Int32) from (by decide))).2) ?_
    show Steps p.tables e below (T1.setTop (mkF m 7 #[.val (.ref o0), .val (.ref o1), .val (.ref o2), .unset] [])) _
    refine XS.aloadN X1.here hx rfl (hb hby dA0_7) rfl rfl ?_
    show Steps p.tables e below (T1.setTop (mkF m 8 #[.val (.ref o0), .val (.ref o1), .val (.ref o2), .unset] [(.ref o0)])) _
    refine XS.aloadN X1.here hx rfl (hb hby dA0_8) rfl rfl ?_
    show Steps p.tables e below (T1.setTop (mkF m 9 #[.val (.ref o0), .val (.ref o1), .val (.ref o2), .unset] [(.ref o1), (.ref o0)])) _
    refine st2 _ ?_
    show Steps p.tables e below (T2.setTop (mkF m 12 #[.val (.ref o0), .val (.ref o1), .val (.ref o2), .unset] [])) _
    refine XS.aloadN X2.here hx rfl (hb hby dA0_12) rfl rfl ?_
    show Steps p.tables e below (T2.setTop (mkF m 13 #[.val (.ref o0), .val (.ref o1), .val (.ref o2), .unset] [(.ref o0)])) _
    refine XS.aloadN X2.here hx rfl (hb hby dA0_13) rfl rfl ?_
    show Steps p.tables e below (T2.setTop (mkF m 14 #[.val (.ref o0), .val (.ref o1), .val (.ref o2), .unset] [(.ref o2), (.ref o0)])) _
    refine st5 _ ?_
    show Steps p.tables e below (T5.setTop (mkF m 17 #[.val (.ref o0), .val (.ref o1), .val (.ref o2), .unset] [])) _
    refine XS.goto X5.here hx rfl (pc0 := 17) (pc' := 87) rfl (hb hby dA0_17) (by decide) (by decide) ?_
    show Steps p.tables e below (T5.setTop (mkF m 87 #[.val (.ref o0), .val (.ref o1), .val (.ref o2), .unset] [])) _
    refine XS.aloadN X5.here hx rfl (hb hby dA0_87) rfl rfl ?_
    show Steps p.tables e below (T5.setTop (mkF m 88 #[.val (.ref o0), .val (.ref o1), .val (.ref o2), .unset] [(.ref o0)])) _
    refine XS.dup X5.here hx rfl (hb hby dA0_88) rfl rfl ?_
    show Steps p.tables e below (T5.setTop (mkF m 89 #[.val (.ref o0), .val (.ref o1), .val (.ref o2), .unset] [(.ref o0), (.ref o0)])) _
    refine st7 _ ?_
    show Steps p.tables e below (T7.setTop (mkF m 92 #[.val (.ref o0), .val (.ref o1), .val (.ref o2), .unset] [(.int (0 : Int32)), (.ref o0)])) _
    refine XS.iconst X7.here hx rfl (hb hby dA0_92) ?_
    show Steps p.tables e below (T7.setTop (mkF m 93 #[.val (.ref o0), .val (.ref o1), .val (.ref o2), .unset] [(.int (1 : Int32)), (.int (0 : Int32)), (.ref o0)])) _
    refine XS.iadd X7.here hx rfl (hb hby dA0_93) rfl ?_
    show Steps p.tables e below (T7.setTop (mkF m 94 #[.val (.ref o0), .val (.ref o1), .val (.ref o2), .unset] [(.int (1 : Int32)), (.ref o0)])) _
    refine st9 _ ?_
    show Steps p.tables e below (T9.setTop (mkF m 97 #[.val (.ref o0), .val (.ref o1), .val (.ref o2), .unset] [])) _
    exact X9.returnOut hx Bd.returns (hb hby dA0_97) hr
  · show QA0 Z o0 o1 o2 h0 n0 _ T9.heap _
    rw [e9]
    exact ⟨rfl, N9, K9, f10, Fw9, f11, f12, f13, f14⟩
theorem dA1_0 : decode prog_73_method_5_code 0 = .ok (.aload_n 0, 1) := by decide +kernel
theorem dA1_1 : decode prog_73_method_5_code 1 = .ok (.getfield 7, 3) := by decide +kernel
theorem dA1_4 : decode prog_73_method_5_code 4 = .ok (.ifCond .ne 16, 3) := by decide +kernel
theorem dA1_20 : decode prog_73_method_5_code 20 = .ok (.aload_n 0, 1) := by decide +kernel
theorem dA1_21 : decode prog_73_method_5_code 21 = .ok (.getfield 7, 3) := by decide +kernel
theorem dA1_24 : decode prog_73_method_5_code 24 = .ok (.iconst 1, 1) := by decide +kernel
theorem dA1_25 : decode prog_73_method_5_code 25 = .ok (.if_icmp .ne 28, 3) := by decide +kernel
theorem dA1_28 : decode prog_73_method_5_code 28 = .ok (.aload_n 0, 1) := by decide +kernel
theorem dA1_29 : decode prog_73_method_5_code 29 = .ok (.new 28, 3) := by decide +kernel
theorem dA1_32 : decode prog_73_method_5_code 32 = .ok (.dup, 1) := by decide +kernel
theorem dA1_33 : decode prog_73_method_5_code 33 = .ok (.aload_n 1, 1) := by decide +kernel
theorem dA1_34 : decode prog_73_method_5_code 34 = .ok (.aload_n 2, 1) := by decide +kernel
theorem dA1_35 : decode prog_73_method_5_code 35 = .ok (.aconst_null, 1) := by decide +kernel
theorem dA1_36 : decode prog_73_method_5_code 36 = .ok (.invokespecial 30, 3) := by decide +kernel
theorem dA1_39 : decode prog_73_method_5_code 39 = .ok (.putfield 17, 3) := by decide +kernel
theorem dA1_42 : decode prog_73_method_5_code 42 = .ok (.aload_n 0, 1) := by decide +kernel
theorem dA1_43 : decode prog_73_method_5_code 43 = .ok (.aload_n 0, 1) := by decide +kernel
theorem dA1_44 : decode prog_73_method_5_code 44 = .ok (.getfield 17, 3) := by decide +kernel
theorem dA1_47 : decode prog_73_method_5_code 47 = .ok (.putfield 25, 3) := by decide +kernel
theorem dA1_50 : decode prog_73_method_5_code 50 = .ok (.goto 37, 3) := by decide +kernel
theorem dA1_87 : decode prog_73_method_5_code 87 = .ok (.aload_n 0, 1) := by decide +kernel
theorem dA1_88 : decode prog_73_method_5_code 88 = .ok (.dup, 1) := by decide +kernel
theorem dA1_89 : decode prog_73_method_5_code 89 = .ok (.getfield 7, 3) := by decide +kernel
theorem dA1_92 : decode prog_73_method_5_code 92 = .ok (.iconst 1, 1) := by decide +kernel
theorem dA1_93 : decode prog_73_method_5_code 93 = .ok (.iadd, 1) := by decide +kernel
theorem dA1_94 : decode prog_73_method_5_code 94 = .ok (.putfield 7, 3) := by decide +kernel
theorem dA1_97 : decode prog_73_method_5_code 97 = .ok (.return_, 1) := by decide +kernel
theorem pd_1 : parseMethodDescriptor "(Lcom/example/trusted_cut/trustedcut/program/Unifier;Ljava/util/List;Lcom/example/trusted_cut/trustedcut/program/ClauseWalk;)V" = some ⟨[(.object "com/example/trusted_cut/trustedcut/program/Unifier"), (.object "java/util/List"), (.object "com/example/trusted_cut/trustedcut/program/ClauseWalk")], none⟩ := by decide +kernel
theorem ef_A1 (m : MethodId) (o0 : Addr) (o1 : Addr) (o2 : Addr) : entryFrame m #[(.ref o0), (.ref o1), (.ref o2)] 4 = mkF m 0 #[.val (.ref o0), .val (.ref o1), .val (.ref o2), .unset] [] := by first | (simp [entryFrame, mkF, argsToLocals, Value.category]; done) | rfl
def QA1 (Z : State) (o0 o1 o2 x y : Addr) (h0 : Heap) (n0 : Nat) (v : Option Value) (h : Heap) (L : List Loc) : Prop := ∃ c, v = none ∧ Fr n0 L ∧ Keep h0 h [o0] ∧ h0.size ≤ c ∧ Exa Z h o0 "com/example/trusted_cut/trustedcut/program/Selections" ∧ Fld Z h o0 "com/example/trusted_cut/trustedcut/program/Selections" "size" "I" (.int (2 : Int32)) ∧ Fld Z h o0 "com/example/trusted_cut/trustedcut/program/Selections" "firstUnifier" "Lcom/example/trusted_cut/trustedcut/program/Unifier;" (.ref x) ∧ Fld Z h o0 "com/example/trusted_cut/trustedcut/program/Selections" "firstGoals" "Ljava/util/List;" (.ref y) ∧ Fld Z h o0 "com/example/trusted_cut/trustedcut/program/Selections" "more" "Lcom/example/trusted_cut/trustedcut/program/Choice;" (.ref c) ∧ Fld Z h o0 "com/example/trusted_cut/trustedcut/program/Selections" "last" "Lcom/example/trusted_cut/trustedcut/program/Choice;" (.ref c) ∧ Exa Z h c "com/example/trusted_cut/trustedcut/program/Choice" ∧ Fld Z h c "com/example/trusted_cut/trustedcut/program/Choice" "unifier" "Lcom/example/trusted_cut/trustedcut/program/Unifier;" (.ref o1) ∧ Fld Z h c "com/example/trusted_cut/trustedcut/program/Choice" "next" "Lcom/example/trusted_cut/trustedcut/program/Choice;" .null
set_option maxRecDepth 65536 in
set_option maxHeartbeats 40000000 in
theorem rmA1 (l : Launch) (Z : State) (a0 : Array Value) (hw : ∀ d ∈ tables_1, d.before a0 Z = true) (ws : List Jvm.Cond) (o0 o1 o2 x y : Addr) (h0 : Heap) (n0 : Nat) (Z0 : n0 ≤ h0.size) (Eo : Exa Z h0 o0 "com/example/trusted_cut/trustedcut/program/Selections") (F_size : Fld Z h0 o0 "com/example/trusted_cut/trustedcut/program/Selections" "size" "I" (.int (1 : Int32))) (F_firstUnifier : Fld Z h0 o0 "com/example/trusted_cut/trustedcut/program/Selections" "firstUnifier" "Lcom/example/trusted_cut/trustedcut/program/Unifier;" (.ref x)) (F_firstGoals : Fld Z h0 o0 "com/example/trusted_cut/trustedcut/program/Selections" "firstGoals" "Ljava/util/List;" (.ref y)) (F_more : Fld Z h0 o0 "com/example/trusted_cut/trustedcut/program/Selections" "more" "Lcom/example/trusted_cut/trustedcut/program/Choice;" .null) (F_last : Fld Z h0 o0 "com/example/trusted_cut/trustedcut/program/Selections" "last" "Lcom/example/trusted_cut/trustedcut/program/Choice;" .null) (g_o0 : n0 ≤ o0) :
    MetFree l (⟨"com/example/trusted_cut/trustedcut/program/Selections", "add", "(Lcom/example/trusted_cut/trustedcut/program/Unifier;Ljava/util/List;)V"⟩ : MethodName) (head1 (Jvm.Cond.code (⟨"com/example/trusted_cut/trustedcut/program/Selections", "add", "(Lcom/example/trusted_cut/trustedcut/program/Unifier;Ljava/util/List;)V"⟩ : MethodName) prog_73_method_5_code 4 none :: ws) ({ frames := 2, cells := 1, slots := 4, locals := 30 } : Room)) (fun a U => a = #[(.ref o0), (.ref o1), (.ref o2)] ∧ Z.Warmed39 U.vm ∧ U.heap = h0) (fun _ _ _ _ _ => True) (fun _ U o U' => ∃ v L, o = .returned v ∧ QA1 Z o0 o1 o2 x y h0 n0 v U'.heap L ∧ FrameEnd U o U' L ({ frames := 2, cells := 1, slots := 4, locals := 30 } : Room).cells ({ frames := 2, cells := 1, slots := 4, locals := 30 } : Room).slots) := by
  refine MetFree.of_bodySF (plainFor_of_name pn_0) hisR ?_
  intro p e s m args below meth c s₁ Bd hml0 hP hK
  obtain ⟨rfl, hZ, hh⟩ := hP
  have hx := Bd.exec
  have hby := Bd.bytes
  have hml : c.maxLocals = 4 := hml0
  have hown : s.vm.findClass "com/example/trusted_cut/trustedcut/program/Selections" = some m.cls := findClass_of_methodNamed Bd.named
  have hnm := (name_of_methodNamed Bd.named Bd.method).1
  have X0 : Stand p l e ({ frames := 2, cells := 1, slots := 4, locals := 30 } : Room) s m #[(.ref o0), (.ref o1), (.ref o2)] below meth c s₁ [] 0 0 := Stand.of_body Bd
  have e0 : s₁.heap = h0 := by rw [← hh, Bd.state]; rfl
  have N0 := Fr.nil n0
  have pre0 : ∀ t, Steps p.tables e below (s₁.setTop (mkF m 0 #[.val (.ref o0), .val (.ref o1), .val (.ref o2), .unset] [])) t → Steps p.tables e below (s₁.setTop (entryFrame m #[(.ref o0), (.ref o1), (.ref o2)] 4)) t := fun t k => castTop (ef_A1 m o0 o1 o2) k
  obtain ⟨T1, X1, e1, st1⟩ := getF X0 hx hZ hown (host := "") (Or.inl (hw _ (List.mem_of_getElem? (i := 86) rfl))) Via.refl e0 F_size (g := (mkF m 1 #[.val (.ref o0), .val (.ref o1), .val (.ref o2), .unset] [(.ref o0)])) rfl rfl (hb hby dA1_1)
  obtain ⟨T2, X2, e2, st2⟩ := getF X1 hx hZ hown (host := "") (Or.inl (hw _ (List.mem_of_getElem? (i := 86) rfl))) Via.refl e1 F_size (g := (mkF m 21 #[.val (.ref o0), .val (.ref o1), .val (.ref o2), .unset] [(.ref o0)])) rfl rfl (hb hby dA1_21)
  obtain ⟨T3, h3, X3, e3, E3, A3, D3, -, st3⟩ := newO X2 hx hZ hown (hw _ (List.mem_of_getElem? (i := 123) rfl)) (hw _ (List.mem_of_getElem? (i := 124) rfl)) (hw _ (List.mem_of_getElem? (i := 125) rfl)) e2 (g := (mkF m 29 #[.val (.ref o0), .val (.ref o1), .val (.ref o2), .unset] [(.ref o0)])) rfl (hb hby dA1_29) (by decide) (by decide)
  obtain ⟨b3, g3⟩ : ∃ z, z = h0.size := ⟨_, rfl⟩
  rw [← g3] at A3 D3 st3
  have g_b3 : n0 ≤ b3 := Nat.le_trans Z0 (Nat.le_of_eq g3.symm)
  have sz_b3 : h0.size ≤ b3 := Nat.le_trans (Keep.refl h0 [o0]).1 (Nat.le_of_eq g3.symm)
  have ne_o0_b3 : o0 ≠ b3 := Nat.ne_of_lt (Nat.lt_of_lt_of_le Eo.lt (Nat.le_of_eq g3.symm))
  have K3 : Keep h0 h3 [o0] := Keep.ext (Keep.refl h0 [o0]) E3
  have Z3 : n0 ≤ h3.size := Nat.le_trans Z0 K3.1
  have F_unifier_b3 : Fld Z h3 b3 "com/example/trusted_cut/trustedcut/program/Choice" "unifier" "Lcom/example/trusted_cut/trustedcut/program/Unifier;" .null := D3 (Or.inr (hw _ (List.mem_of_getElem? (i := 131) rfl))) (ty := (.object "com/example/trusted_cut/trustedcut/program/Unifier")) (by decide)
  have F_goals_b3 : Fld Z h3 b3 "com/example/trusted_cut/trustedcut/program/Choice" "goals" "Ljava/util/List;" .null := D3 (Or.inr (hw _ (List.mem_of_getElem? (i := 133) rfl))) (ty := (.object "java/util/List")) (by decide)
  have F_walk_b3 : Fld Z h3 b3 "com/example/trusted_cut/trustedcut/program/Choice" "walk" "Lcom/example/trusted_cut/trustedcut/program/ClauseWalk;" .null := D3 (Or.inr (hw _ (List.mem_of_getElem? (i := 135) rfl))) (ty := (.object "com/example/trusted_cut/trustedcut/program/ClauseWalk")) (by decide)
  have F_next_b3 : Fld Z h3 b3 "com/example/trusted_cut/trustedcut/program/Choice" "next" "Lcom/example/trusted_cut/trustedcut/program/Choice;" .null := D3 (Or.inl (hw _ (List.mem_of_getElem? (i := 152) rfl))) (ty := (.object "com/example/trusted_cut/trustedcut/program/Choice")) (by decide)
  obtain ⟨_, _, ⟨T4, L4, k4, n4⟩, -, X4, ⟨Lc4, hQ4, l4, y4, z4⟩, st4⟩ := X3.specialBack hx (y := (⟨"com/example/trusted_cut/trustedcut/program/Choice", "<init>", "(Lcom/example/trusted_cut/trustedcut/program/Unifier;Ljava/util/List;Lcom/example/trusted_cut/trustedcut/program/ClauseWalk;)V"⟩ : MethodName)) rfl hown (mvT hZ (hw _ (List.mem_of_getElem? (i := 126) rfl))) (mvT hZ (hw _ (List.mem_of_getElem? (i := 127) rfl))) (mvT hZ (hw _ (List.mem_of_getElem? (i := 128) rfl))) (by decide) (backOf (W := 2) (rm16 l Z a0 hw [] b3 o1 o2 h3 n0 Z3 A3 F_unifier_b3 F_goals_b3 F_walk_b3 F_next_b3 g_b3) hZ (hw _ (List.mem_of_getElem? (i := 128) rfl)) (hw _ (List.mem_of_getElem? (i := 125) rfl)) (by decide) (by decide)) (g := (mkF m 36 #[.val (.ref o0), .val (.ref o1), .val (.ref o2), .unset] [.null, (.ref o2), (.ref o1), (.ref b3), (.ref b3), (.ref o0)])) rfl (by rw [hml]; rfl) (Steps.refl _) (a := b3) (argsL := [(.ref o1), (.ref o2), .null]) (rest := [(.ref b3), (.ref o0)]) (lenOf pd_1 rfl) rfl (by show 2 * 0 + _ ≤ _; exact Nat.le_of_eq rfl) (hb hby dA1_36) (fun _ _ => ⟨rfl, e3, (by decide : 1 + 0 ≤ _), (by decide : 4 + 0 ≤ _)⟩)
  dsimp only [Pt.U, Pt.locs, Pt.cells, Pt.slots] at X4 l4 y4 z4 st4 hQ4
  subst l4 y4 z4
  obtain ⟨rfl, N4q, K4, E4o, F4_0, F4_1⟩ := hQ4
  have KK4 : Keep h0 T4.heap [o0] := Keep.trans K3 K4 (own_side1 (Or.inr sz_b3))
  have Z4 : n0 ≤ T4.heap.size := Nat.le_trans Z0 KK4.1
  have N4 := Fr.app N0 N4q
  have f5 := ((Eo.ext E3).keep K4)
  have f6 := ((F_more.ext E3).keep K4 (own_notin1 ne_o0_b3))
  obtain ⟨T7, h7, X7, e7, W7, st7⟩ := putF X4 hx hZ hown (host := "") (Or.inl (hw _ (List.mem_of_getElem? (i := 92) rfl))) Via.refl rfl f6 f5 (Or.inl (hw _ (List.mem_of_getElem? (i := 93) rfl))) (hw _ (List.mem_of_getElem? (i := 1) rfl)) (ty := (.object "com/example/trusted_cut/trustedcut/program/Choice")) (by decide) rfl rfl (g := (mkF m 39 #[.val (.ref o0), .val (.ref o1), .val (.ref o2), .unset] [(.ref b3), (.ref o0)])) rfl rfl (hb hby dA1_39)
  have Fw7 := f6.same W7
  have K7 : Keep h0 h7 [o0] := Keep.wr KK4 W7 (Or.inl (List.mem_of_getElem? (i := 0) rfl))
  have Z7 : n0 ≤ h7.size := Nat.le_trans Z0 K7.1
  have N7 := Fr.snoc X7 N4 g_o0
  obtain ⟨T8, X8, e8, st8⟩ := getF X7 hx hZ hown (host := "") (Or.inl (hw _ (List.mem_of_getElem? (i := 92) rfl))) Via.refl e7 Fw7 (g := (mkF m 44 #[.val (.ref o0), .val (.ref o1), .val (.ref o2), .unset] [(.ref o0), (.ref o0)])) rfl rfl (hb hby dA1_44)
  have f9 := (f5.wr W7)
  have f10 := (((F_last.ext E3).keep K4 (own_notin1 ne_o0_b3)).other W7 (Or.inr (slot_ne (Or.inl (hw _ (List.mem_of_getElem? (i := 95) rfl))) (Or.inl (hw _ (List.mem_of_getElem? (i := 93) rfl))) (by decide) (t := (.object "com/example/trusted_cut/trustedcut/program/Choice")) (t' := (.object "com/example/trusted_cut/trustedcut/program/Choice")) (by decide) (by decide))))
  obtain ⟨T11, h11, X11, e11, W11, st11⟩ := putF X8 hx hZ hown (host := "") (Or.inl (hw _ (List.mem_of_getElem? (i := 94) rfl))) Via.refl e8 f10 f9 (Or.inl (hw _ (List.mem_of_getElem? (i := 95) rfl))) (hw _ (List.mem_of_getElem? (i := 1) rfl)) (ty := (.object "com/example/trusted_cut/trustedcut/program/Choice")) (by decide) rfl rfl (g := (mkF m 47 #[.val (.ref o0), .val (.ref o1), .val (.ref o2), .unset] [(.ref b3), (.ref o0)])) rfl rfl (hb hby dA1_47)
  have Fw11 := f10.same W11
  have K11 : Keep h0 h11 [o0] := Keep.wr K7 W11 (Or.inl (List.mem_of_getElem? (i := 0) rfl))
  have Z11 : n0 ≤ h11.size := Nat.le_trans Z0 K11.1
  have N11 := Fr.snoc X11 N7 g_o0
  have f12 := ((((F_size.ext E3).keep K4 (own_notin1 ne_o0_b3)).other W7 (Or.inr (slot_ne (Or.inl (hw _ (List.mem_of_getElem? (i := 87) rfl))) (Or.inl (hw _ (List.mem_of_getElem? (i := 93) rfl))) (by decide) (t := .int) (t' := (.object "com/example/trusted_cut/trustedcut/program/Choice")) (by decide) (by decide)))).other W11 (Or.inr (slot_ne (Or.inl (hw _ (List.mem_of_getElem? (i := 87) rfl))) (Or.inl (hw _ (List.mem_of_getElem? (i := 95) rfl))) (by decide) (t := .int) (t' := (.object "com/example/trusted_cut/trustedcut/program/Choice")) (by decide) (by decide))))
  obtain ⟨T13, X13, e13, st13⟩ := getF X11 hx hZ hown (host := "") (Or.inl (hw _ (List.mem_of_getElem? (i := 86) rfl))) Via.refl e11 f12 (g := (mkF m 89 #[.val (.ref o0), .val (.ref o1), .val (.ref o2), .unset] [(.ref o0), (.ref o0)])) rfl rfl (hb hby dA1_89)
  have f14 := (f9.wr W11)
  obtain ⟨T15, h15, X15, e15, W15, st15⟩ := putF X13 hx hZ hown (host := "") (Or.inl (hw _ (List.mem_of_getElem? (i := 86) rfl))) Via.refl e13 f12 f14 (Or.inl (hw _ (List.mem_of_getElem? (i := 87) rfl))) (hw _ (List.mem_of_getElem? (i := 1) rfl)) (ty := .int) (by decide) rfl rfl (g := (mkF m 94 #[.val (.ref o0), .val (.ref o1), .val (.ref o2), .unset] [(.int (2 : Int32)), (.ref o0)])) rfl rfl (hb hby dA1_94)
  have Fw15 := f12.same W15
  have K15 : Keep h0 h15 [o0] := Keep.wr K11 W15 (Or.inl (List.mem_of_getElem? (i := 0) rfl))
  have Z15 : n0 ≤ h15.size := Nat.le_trans Z0 K15.1
  have N15 := Fr.snoc X15 N11 g_o0
  have f16 := (f14.wr W15)
  have f17 := (((((F_firstUnifier.ext E3).keep K4 (own_notin1 ne_o0_b3)).other W7 (Or.inr (slot_ne (Or.inl (hw _ (List.mem_of_getElem? (i := 89) rfl))) (Or.inl (hw _ (List.mem_of_getElem? (i := 93) rfl))) (by decide) (t := (.object "com/example/trusted_cut/trustedcut/program/Unifier")) (t' := (.object "com/example/trusted_cut/trustedcut/program/Choice")) (by decide) (by decide)))).other W11 (Or.inr (slot_ne (Or.inl (hw _ (List.mem_of_getElem? (i := 89) rfl))) (Or.inl (hw _ (List.mem_of_getElem? (i := 95) rfl))) (by decide) (t := (.object "com/example/trusted_cut/trustedcut/program/Unifier")) (t' := (.object "com/example/trusted_cut/trustedcut/program/Choice")) (by decide) (by decide)))).other W15 (Or.inr (slot_ne (Or.inl (hw _ (List.mem_of_getElem? (i := 89) rfl))) (Or.inl (hw _ (List.mem_of_getElem? (i := 87) rfl))) (by decide) (t := (.object "com/example/trusted_cut/trustedcut/program/Unifier")) (t' := .int) (by decide) (by decide))))
  have f18 := (((((F_firstGoals.ext E3).keep K4 (own_notin1 ne_o0_b3)).other W7 (Or.inr (slot_ne (Or.inl (hw _ (List.mem_of_getElem? (i := 91) rfl))) (Or.inl (hw _ (List.mem_of_getElem? (i := 93) rfl))) (by decide) (t := (.object "java/util/List")) (t' := (.object "com/example/trusted_cut/trustedcut/program/Choice")) (by decide) (by decide)))).other W11 (Or.inr (slot_ne (Or.inl (hw _ (List.mem_of_getElem? (i := 91) rfl))) (Or.inl (hw _ (List.mem_of_getElem? (i := 95) rfl))) (by decide) (t := (.object "java/util/List")) (t' := (.object "com/example/trusted_cut/trustedcut/program/Choice")) (by decide) (by decide)))).other W15 (Or.inr (slot_ne (Or.inl (hw _ (List.mem_of_getElem? (i := 91) rfl))) (Or.inl (hw _ (List.mem_of_getElem? (i := 87) rfl))) (by decide) (t := (.object "java/util/List")) (t' := .int) (by decide) (by decide))))
  have f19 := ((Fw7.other W11 (Or.inr (slot_ne (Or.inl (hw _ (List.mem_of_getElem? (i := 93) rfl))) (Or.inl (hw _ (List.mem_of_getElem? (i := 95) rfl))) (by decide) (t := (.object "com/example/trusted_cut/trustedcut/program/Choice")) (t' := (.object "com/example/trusted_cut/trustedcut/program/Choice")) (by decide) (by decide)))).other W15 (Or.inr (slot_ne (Or.inl (hw _ (List.mem_of_getElem? (i := 93) rfl))) (Or.inl (hw _ (List.mem_of_getElem? (i := 87) rfl))) (by decide) (t := (.object "com/example/trusted_cut/trustedcut/program/Choice")) (t' := .int) (by decide) (by decide))))
  have f20 := (Fw11.other W15 (Or.inr (slot_ne (Or.inl (hw _ (List.mem_of_getElem? (i := 95) rfl))) (Or.inl (hw _ (List.mem_of_getElem? (i := 87) rfl))) (by decide) (t := (.object "com/example/trusted_cut/trustedcut/program/Choice")) (t' := .int) (by decide) (by decide))))
  have f21 := (((E4o.wr W7).wr W11).wr W15)
  have f22 := (((F4_0.other W7 (Or.inl (Ne.symm ne_o0_b3))).other W11 (Or.inl (Ne.symm ne_o0_b3))).other W15 (Or.inl (Ne.symm ne_o0_b3)))
  have f23 := (((F4_1.other W7 (Or.inl (Ne.symm ne_o0_b3))).other W11 (Or.inl (Ne.symm ne_o0_b3))).other W15 (Or.inl (Ne.symm ne_o0_b3)))
  obtain ⟨fs, hr, hrun, hended, hW, hsame⟩ := X15.leave (v := none) (fun _ => rfl)
  refine ⟨_, _, pre0 _ ?_, hrun, hended, _, _, rfl, ?_, ⟨_, rfl⟩, hW, hsame.mono (by decide) (by decide)⟩
  · show Steps p.tables e below (s₁.setTop (mkF m 0 #[.val (.ref o0), .val (.ref o1), .val (.ref o2), .unset] [])) _
    refine XS.aloadN X0.here hx rfl (hb hby dA1_0) rfl rfl ?_
    show Steps p.tables e below (s₁.setTop (mkF m 1 #[.val (.ref o0), .val (.ref o1), .val (.ref o2), .unset] [(.ref o0)])) _
    refine st1 _ ?_
    show Steps p.tables e below (T1.setTop (mkF m 4 #[.val (.ref o0), .val (.ref o1), .val (.ref o2), .unset] [(.int (1 : Int32))])) _
    refine XS.ifYes X1.here hx rfl (pc0 := 4) (pc' := 20) rfl (hb hby dA1_4) rfl ((if0 _ _).trans (feq (show ¬ ((1 : Int32) = (0 : Int32)) from (by decide))).2) (by decide) (by decide) ?_
    show Steps p.tables e below (T1.setTop (mkF m 20 #[.val (.ref o0), .val (.ref o1), .val (.ref o2), .unset] [])) _
    refine XS.aloadN X1.here hx rfl (hb hby dA1_20) rfl rfl ?_
    show Steps p.tables e below (T1.setTop (mkF m 21 #[.val (.ref o0), .val (.ref o1), .val (.ref o2), .unset] [(.ref o0)])) _
    refine st2 _ ?_
    show Steps p.tables e below (T2.setTop (mkF m 24 #[.val (.ref o0), .val (.ref o1), .val (.ref o2), .unset] [(.int (1 : Int32))])) _
    refine XS.iconst X2.here hx rfl (hb hby dA1_24) ?_
    show Steps p.tables e below (T2.setTop (mkF m 25 #[.val (.ref o0), .val (.ref o1), .val (.ref o2), .unset] [(.int (1 : Int32)), (.int (1 : Int32))])) _
    refine XS.icmpNo X2.here hx rfl (hb hby dA1_25) rfl (teq (show (1 : Int32) = (1 : Int32) from (by decide))).2 ?_
    show Steps p.tables e below (T2.setTop (mkF m 28 #[.val (.ref o0), .val (.ref o1), .val (.ref o2), .unset] [])) _
    refine XS.aloadN X2.here hx rfl (hb hby dA1_28) rfl rfl ?_
    show Steps p.tables e below (T2.setTop (mkF m 29 #[.val (.ref o0), .val (.ref o1), .val (.ref o2), .unset] [(.ref o0)])) _
    refine st3 _ ?_
    show Steps p.tables e below (T3.setTop (mkF m 32 #[.val (.ref o0), .val (.ref o1), .val (.ref o2), .unset] [(.ref b3), (.ref o0)])) _
    refine XS.dup X3.here hx rfl (hb hby dA1_32) rfl rfl ?_
    show Steps p.tables e below (T3.setTop (mkF m 33 #[.val (.ref o0), .val (.ref o1), .val (.ref o2), .unset] [(.ref b3), (.ref b3), (.ref o0)])) _
    refine XS.aloadN X3.here hx rfl (hb hby dA1_33) rfl rfl ?_
    show Steps p.tables e below (T3.setTop (mkF m 34 #[.val (.ref o0), .val (.ref o1), .val (.ref o2), .unset] [(.ref o1), (.ref b3), (.ref b3), (.ref o0)])) _
    refine XS.aloadN X3.here hx rfl (hb hby dA1_34) rfl rfl ?_
    show Steps p.tables e below (T3.setTop (mkF m 35 #[.val (.ref o0), .val (.ref o1), .val (.ref o2), .unset] [(.ref o2), (.ref o1), (.ref b3), (.ref b3), (.ref o0)])) _
    refine XS.aconstNull X3.here hx rfl (hb hby dA1_35) ?_
    show Steps p.tables e below (T3.setTop (mkF m 36 #[.val (.ref o0), .val (.ref o1), .val (.ref o2), .unset] [.null, (.ref o2), (.ref o1), (.ref b3), (.ref b3), (.ref o0)])) _
    refine st4.trans ?_
    show Steps p.tables e below (T4.setTop (mkF m 39 #[.val (.ref o0), .val (.ref o1), .val (.ref o2), .unset] [(.ref b3), (.ref o0)])) _
    refine st7 _ ?_
    show Steps p.tables e below (T7.setTop (mkF m 42 #[.val (.ref o0), .val (.ref o1), .val (.ref o2), .unset] [])) _
    refine XS.aloadN X7.here hx rfl (hb hby dA1_42) rfl rfl ?_
    show Steps p.tables e below (T7.setTop (mkF m 43 #[.val (.ref o0), .val (.ref o1), .val (.ref o2), .unset] [(.ref o0)])) _
    refine XS.aloadN X7.here hx rfl (hb hby dA1_43) rfl rfl ?_
    show Steps p.tables e below (T7.setTop (mkF m 44 #[.val (.ref o0), .val (.ref o1), .val (.ref o2), .unset] [(.ref o0), (.ref o0)])) _
    refine st8 _ ?_
    show Steps p.tables e below (T8.setTop (mkF m 47 #[.val (.ref o0), .val (.ref o1), .val (.ref o2), .unset] [(.ref b3), (.ref o0)])) _
    refine st11 _ ?_
    show Steps p.tables e below (T11.setTop (mkF m 50 #[.val (.ref o0), .val (.ref o1), .val (.ref o2), .unset] [])) _
    refine XS.goto X11.here hx rfl (pc0 := 50) (pc' := 87) rfl (hb hby dA1_50) (by decide) (by decide) ?_
    show Steps p.tables e below (T11.setTop (mkF m 87 #[.val (.ref o0), .val (.ref o1), .val (.ref o2), .unset] [])) _
    refine XS.aloadN X11.here hx rfl (hb hby dA1_87) rfl rfl ?_
    show Steps p.tables e below (T11.setTop (mkF m 88 #[.val (.ref o0), .val (.ref o1), .val (.ref o2), .unset] [(.ref o0)])) _
    refine XS.dup X11.here hx rfl (hb hby dA1_88) rfl rfl ?_
    show Steps p.tables e below (T11.setTop (mkF m 89 #[.val (.ref o0), .val (.ref o1), .val (.ref o2), .unset] [(.ref o0), (.ref o0)])) _
    refine st13 _ ?_
    show Steps p.tables e below (T13.setTop (mkF m 92 #[.val (.ref o0), .val (.ref o1), .val (.ref o2), .unset] [(.int (1 : Int32)), (.ref o0)])) _
    refine XS.iconst X13.here hx rfl (hb hby dA1_92) ?_
    show Steps p.tables e below (T13.setTop (mkF m 93 #[.val (.ref o0), .val (.ref o1), .val (.ref o2), .unset] [(.int (1 : Int32)), (.int (1 : Int32)), (.ref o0)])) _
    refine XS.iadd X13.here hx rfl (hb hby dA1_93) rfl ?_
    show Steps p.tables e below (T13.setTop (mkF m 94 #[.val (.ref o0), .val (.ref o1), .val (.ref o2), .unset] [(.int (2 : Int32)), (.ref o0)])) _
    refine st15 _ ?_
    show Steps p.tables e below (T15.setTop (mkF m 97 #[.val (.ref o0), .val (.ref o1), .val (.ref o2), .unset] [])) _
    exact X15.returnOut hx Bd.returns (hb hby dA1_97) hr
  · show QA1 Z o0 o1 o2 x y h0 n0 _ T15.heap _
    rw [e15]
    exact ⟨b3, rfl, N15, K15, sz_b3, f16, Fw15, f17, f18, f19, f20, f21, f22, f23⟩
theorem dA2_0 : decode prog_73_method_5_code 0 = .ok (.aload_n 0, 1) := by decide +kernel
theorem dA2_1 : decode prog_73_method_5_code 1 = .ok (.getfield 7, 3) := by decide +kernel
theorem dA2_4 : decode prog_73_method_5_code 4 = .ok (.ifCond .ne 16, 3) := by decide +kernel
theorem dA2_20 : decode prog_73_method_5_code 20 = .ok (.aload_n 0, 1) := by decide +kernel
theorem dA2_21 : decode prog_73_method_5_code 21 = .ok (.getfield 7, 3) := by decide +kernel
theorem dA2_24 : decode prog_73_method_5_code 24 = .ok (.iconst 1, 1) := by decide +kernel
theorem dA2_25 : decode prog_73_method_5_code 25 = .ok (.if_icmp .ne 28, 3) := by decide +kernel
theorem dA2_53 : decode prog_73_method_5_code 53 = .ok (.new 28, 3) := by decide +kernel
theorem dA2_56 : decode prog_73_method_5_code 56 = .ok (.dup, 1) := by decide +kernel
theorem dA2_57 : decode prog_73_method_5_code 57 = .ok (.aload_n 1, 1) := by decide +kernel
theorem dA2_58 : decode prog_73_method_5_code 58 = .ok (.aload_n 0, 1) := by decide +kernel
theorem dA2_59 : decode prog_73_method_5_code 59 = .ok (.getfield 17, 3) := by decide +kernel
theorem dA2_62 : decode prog_73_method_5_code 62 = .ok (.invokevirtual 33, 3) := by decide +kernel
theorem dA2_65 : decode prog_73_method_5_code 65 = .ok (.invokevirtual 37, 3) := by decide +kernel
theorem dA2_68 : decode prog_73_method_5_code 68 = .ok (.aload_n 2, 1) := by decide +kernel
theorem dA2_69 : decode prog_73_method_5_code 69 = .ok (.aconst_null, 1) := by decide +kernel
theorem dA2_70 : decode prog_73_method_5_code 70 = .ok (.invokespecial 30, 3) := by decide +kernel
theorem dA2_73 : decode prog_73_method_5_code 73 = .ok (.astore_n 3, 1) := by decide +kernel
theorem dA2_74 : decode prog_73_method_5_code 74 = .ok (.aload_n 0, 1) := by decide +kernel
theorem dA2_75 : decode prog_73_method_5_code 75 = .ok (.getfield 25, 3) := by decide +kernel
theorem dA2_78 : decode prog_73_method_5_code 78 = .ok (.aload_n 3, 1) := by decide +kernel
theorem dA2_79 : decode prog_73_method_5_code 79 = .ok (.invokevirtual 43, 3) := by decide +kernel
theorem dA2_82 : decode prog_73_method_5_code 82 = .ok (.aload_n 0, 1) := by decide +kernel
theorem dA2_83 : decode prog_73_method_5_code 83 = .ok (.aload_n 3, 1) := by decide +kernel
theorem dA2_84 : decode prog_73_method_5_code 84 = .ok (.putfield 25, 3) := by decide +kernel
theorem dA2_87 : decode prog_73_method_5_code 87 = .ok (.aload_n 0, 1) := by decide +kernel
theorem dA2_88 : decode prog_73_method_5_code 88 = .ok (.dup, 1) := by decide +kernel
theorem dA2_89 : decode prog_73_method_5_code 89 = .ok (.getfield 7, 3) := by decide +kernel
theorem dA2_92 : decode prog_73_method_5_code 92 = .ok (.iconst 1, 1) := by decide +kernel
theorem dA2_93 : decode prog_73_method_5_code 93 = .ok (.iadd, 1) := by decide +kernel
theorem dA2_94 : decode prog_73_method_5_code 94 = .ok (.putfield 7, 3) := by decide +kernel
theorem dA2_97 : decode prog_73_method_5_code 97 = .ok (.return_, 1) := by decide +kernel
theorem pd_2 : parseMethodDescriptor "()Lcom/example/trusted_cut/trustedcut/program/Unifier;" = some ⟨[], some (.object "com/example/trusted_cut/trustedcut/program/Unifier")⟩ := by decide +kernel
theorem pd_3 : parseMethodDescriptor "(Lcom/example/trusted_cut/trustedcut/program/Unifier;)Lcom/example/trusted_cut/trustedcut/program/Unifier;" = some ⟨[(.object "com/example/trusted_cut/trustedcut/program/Unifier")], some (.object "com/example/trusted_cut/trustedcut/program/Unifier")⟩ := by decide +kernel
theorem pd_4 : parseMethodDescriptor "(Lcom/example/trusted_cut/trustedcut/program/Choice;)V" = some ⟨[(.object "com/example/trusted_cut/trustedcut/program/Choice")], none⟩ := by decide +kernel
theorem ef_A2 (m : MethodId) (o0 : Addr) (o1 : Addr) (o2 : Addr) : entryFrame m #[(.ref o0), (.ref o1), (.ref o2)] 4 = mkF m 0 #[.val (.ref o0), .val (.ref o1), .val (.ref o2), .unset] [] := by first | (simp [entryFrame, mkF, argsToLocals, Value.category]; done) | rfl
def QA2 (Z : State) (o0 o1 x y cho : Addr) (h0 : Heap) (n0 : Nat) (v : Option Value) (h : Heap) (L : List Loc) : Prop := ∃ d, v = none ∧ Fr n0 L ∧ Keep h0 h [o0, o1, cho] ∧ Exa Z h o0 "com/example/trusted_cut/trustedcut/program/Selections" ∧ Fld Z h o0 "com/example/trusted_cut/trustedcut/program/Selections" "size" "I" (.int (3 : Int32)) ∧ Fld Z h o0 "com/example/trusted_cut/trustedcut/program/Selections" "firstUnifier" "Lcom/example/trusted_cut/trustedcut/program/Unifier;" (.ref x) ∧ Fld Z h o0 "com/example/trusted_cut/trustedcut/program/Selections" "firstGoals" "Ljava/util/List;" (.ref y) ∧ Fld Z h o0 "com/example/trusted_cut/trustedcut/program/Selections" "more" "Lcom/example/trusted_cut/trustedcut/program/Choice;" (.ref cho) ∧ Fld Z h o0 "com/example/trusted_cut/trustedcut/program/Selections" "last" "Lcom/example/trusted_cut/trustedcut/program/Choice;" (.ref d)
set_option maxRecDepth 65536 in
set_option maxHeartbeats 40000000 in
theorem rmA2 (l : Launch) (Z : State) (a0 : Array Value) (hw : ∀ d ∈ tables_1, d.before a0 Z = true) (ws : List Jvm.Cond) (o0 o1 o2 x y cho k : Addr) (h0 : Heap) (n0 : Nat) (Z0 : n0 ≤ h0.size) (Eo : Exa Z h0 o0 "com/example/trusted_cut/trustedcut/program/Selections") (F_size : Fld Z h0 o0 "com/example/trusted_cut/trustedcut/program/Selections" "size" "I" (.int (2 : Int32))) (F_firstUnifier : Fld Z h0 o0 "com/example/trusted_cut/trustedcut/program/Selections" "firstUnifier" "Lcom/example/trusted_cut/trustedcut/program/Unifier;" (.ref x)) (F_firstGoals : Fld Z h0 o0 "com/example/trusted_cut/trustedcut/program/Selections" "firstGoals" "Ljava/util/List;" (.ref y)) (F_more : Fld Z h0 o0 "com/example/trusted_cut/trustedcut/program/Selections" "more" "Lcom/example/trusted_cut/trustedcut/program/Choice;" (.ref cho)) (F_last : Fld Z h0 o0 "com/example/trusted_cut/trustedcut/program/Selections" "last" "Lcom/example/trusted_cut/trustedcut/program/Choice;" (.ref cho)) (Eu : Exa Z h0 o1 "com/example/trusted_cut/trustedcut/program/Unifier") (Fm : Fld Z h0 o1 "com/example/trusted_cut/trustedcut/program/Unifier" "marked" "Lcom/example/trusted_cut/trustedcut/program/Unifier;" (.ref k)) (Ec : Exa Z h0 cho "com/example/trusted_cut/trustedcut/program/Choice") (Fcu : Fld Z h0 cho "com/example/trusted_cut/trustedcut/program/Choice" "unifier" "Lcom/example/trusted_cut/trustedcut/program/Unifier;" (.ref o1)) (Fcn : Fld Z h0 cho "com/example/trusted_cut/trustedcut/program/Choice" "next" "Lcom/example/trusted_cut/trustedcut/program/Choice;" .null) (g_o0 : n0 ≤ o0) (g_o1 : n0 ≤ o1) (g_cho : n0 ≤ cho) (ne_o0_o1 : o0 ≠ o1) (ne_o0_c : o0 ≠ cho) (ne_o1_c : o1 ≠ cho) :
    MetFree l (⟨"com/example/trusted_cut/trustedcut/program/Selections", "add", "(Lcom/example/trusted_cut/trustedcut/program/Unifier;Ljava/util/List;)V"⟩ : MethodName) (head1 (Jvm.Cond.code (⟨"com/example/trusted_cut/trustedcut/program/Selections", "add", "(Lcom/example/trusted_cut/trustedcut/program/Unifier;Ljava/util/List;)V"⟩ : MethodName) prog_73_method_5_code 4 none :: ws) ({ frames := 2, cells := 1, slots := 4, locals := 30 } : Room)) (fun a U => a = #[(.ref o0), (.ref o1), (.ref o2)] ∧ Z.Warmed39 U.vm ∧ U.heap = h0) (fun _ _ _ _ _ => True) (fun _ U o U' => ∃ v L, o = .returned v ∧ QA2 Z o0 o1 x y cho h0 n0 v U'.heap L ∧ FrameEnd U o U' L ({ frames := 2, cells := 1, slots := 4, locals := 30 } : Room).cells ({ frames := 2, cells := 1, slots := 4, locals := 30 } : Room).slots) := by
  refine MetFree.of_bodySF (plainFor_of_name pn_0) hisR ?_
  intro p e s m args below meth c s₁ Bd hml0 hP hK
  obtain ⟨rfl, hZ, hh⟩ := hP
  have hx := Bd.exec
  have hby := Bd.bytes
  have hml : c.maxLocals = 4 := hml0
  have hown : s.vm.findClass "com/example/trusted_cut/trustedcut/program/Selections" = some m.cls := findClass_of_methodNamed Bd.named
  have hnm := (name_of_methodNamed Bd.named Bd.method).1
  have X0 : Stand p l e ({ frames := 2, cells := 1, slots := 4, locals := 30 } : Room) s m #[(.ref o0), (.ref o1), (.ref o2)] below meth c s₁ [] 0 0 := Stand.of_body Bd
  have e0 : s₁.heap = h0 := by rw [← hh, Bd.state]; rfl
  have N0 := Fr.nil n0
  have pre0 : ∀ t, Steps p.tables e below (s₁.setTop (mkF m 0 #[.val (.ref o0), .val (.ref o1), .val (.ref o2), .unset] [])) t → Steps p.tables e below (s₁.setTop (entryFrame m #[(.ref o0), (.ref o1), (.ref o2)] 4)) t := fun t k => castTop (ef_A2 m o0 o1 o2) k
  obtain ⟨T1, X1, e1, st1⟩ := getF X0 hx hZ hown (host := "") (Or.inl (hw _ (List.mem_of_getElem? (i := 86) rfl))) Via.refl e0 F_size (g := (mkF m 1 #[.val (.ref o0), .val (.ref o1), .val (.ref o2), .unset] [(.ref o0)])) rfl rfl (hb hby dA2_1)
  obtain ⟨T2, X2, e2, st2⟩ := getF X1 hx hZ hown (host := "") (Or.inl (hw _ (List.mem_of_getElem? (i := 86) rfl))) Via.refl e1 F_size (g := (mkF m 21 #[.val (.ref o0), .val (.ref o1), .val (.ref o2), .unset] [(.ref o0)])) rfl rfl (hb hby dA2_21)
  obtain ⟨T3, h3, X3, e3, E3, A3, D3, -, st3⟩ := newO X2 hx hZ hown (hw _ (List.mem_of_getElem? (i := 123) rfl)) (hw _ (List.mem_of_getElem? (i := 124) rfl)) (hw _ (List.mem_of_getElem? (i := 125) rfl)) e2 (g := (mkF m 53 #[.val (.ref o0), .val (.ref o1), .val (.ref o2), .unset] [])) rfl (hb hby dA2_53) (by decide) (by decide)
  obtain ⟨b3, g3⟩ : ∃ z, z = h0.size := ⟨_, rfl⟩
  rw [← g3] at A3 D3 st3
  have g_b3 : n0 ≤ b3 := Nat.le_trans Z0 (Nat.le_of_eq g3.symm)
  have sz_b3 : h0.size ≤ b3 := Nat.le_trans (Keep.refl h0 [o0, o1, cho]).1 (Nat.le_of_eq g3.symm)
  have ne_o0_b3 : o0 ≠ b3 := Nat.ne_of_lt (Nat.lt_of_lt_of_le Eo.lt (Nat.le_of_eq g3.symm))
  have ne_o1_b3 : o1 ≠ b3 := Nat.ne_of_lt (Nat.lt_of_lt_of_le Eu.lt (Nat.le_of_eq g3.symm))
  have ne_cho_b3 : cho ≠ b3 := Nat.ne_of_lt (Nat.lt_of_lt_of_le Ec.lt (Nat.le_of_eq g3.symm))
  have K3 : Keep h0 h3 [o0, o1, cho] := Keep.ext (Keep.refl h0 [o0, o1, cho]) E3
  have Z3 : n0 ≤ h3.size := Nat.le_trans Z0 K3.1
  have F_unifier_b3 : Fld Z h3 b3 "com/example/trusted_cut/trustedcut/program/Choice" "unifier" "Lcom/example/trusted_cut/trustedcut/program/Unifier;" .null := D3 (Or.inr (hw _ (List.mem_of_getElem? (i := 131) rfl))) (ty := (.object "com/example/trusted_cut/trustedcut/program/Unifier")) (by decide)
  have F_goals_b3 : Fld Z h3 b3 "com/example/trusted_cut/trustedcut/program/Choice" "goals" "Ljava/util/List;" .null := D3 (Or.inr (hw _ (List.mem_of_getElem? (i := 133) rfl))) (ty := (.object "java/util/List")) (by decide)
  have F_walk_b3 : Fld Z h3 b3 "com/example/trusted_cut/trustedcut/program/Choice" "walk" "Lcom/example/trusted_cut/trustedcut/program/ClauseWalk;" .null := D3 (Or.inr (hw _ (List.mem_of_getElem? (i := 135) rfl))) (ty := (.object "com/example/trusted_cut/trustedcut/program/ClauseWalk")) (by decide)
  have F_next_b3 : Fld Z h3 b3 "com/example/trusted_cut/trustedcut/program/Choice" "next" "Lcom/example/trusted_cut/trustedcut/program/Choice;" .null := D3 (Or.inl (hw _ (List.mem_of_getElem? (i := 152) rfl))) (ty := (.object "com/example/trusted_cut/trustedcut/program/Choice")) (by decide)
  have f4 := (F_more.ext E3)
  obtain ⟨T5, X5, e5, st5⟩ := getF X3 hx hZ hown (host := "") (Or.inl (hw _ (List.mem_of_getElem? (i := 92) rfl))) Via.refl e3 f4 (g := (mkF m 59 #[.val (.ref o0), .val (.ref o1), .val (.ref o2), .unset] [(.ref o0), (.ref o1), (.ref b3), (.ref b3)])) rfl rfl (hb hby dA2_59)
  have f7 := (Fcu.ext E3)
  have f8 := (Ec.ext E3)
  obtain ⟨cq6, kq6, q6a, q6b, q6c⟩ := isOf hZ e5 f8
  obtain ⟨_, _, ⟨T6, L6, k6, n6⟩, -, X6, ⟨Lc6, hQ6, l6, y6, z6⟩, st6⟩ := X5.virtualBack hx (y := (⟨"com/example/trusted_cut/trustedcut/program/Choice", "unifier", "()Lcom/example/trusted_cut/trustedcut/program/Unifier;"⟩ : MethodName)) (z := (⟨"com/example/trusted_cut/trustedcut/program/Choice", "unifier", "()Lcom/example/trusted_cut/trustedcut/program/Unifier;"⟩ : MethodName)) hown (mvT hZ (hw _ (List.mem_of_getElem? (i := 136) rfl))) (mvT hZ (hw _ (List.mem_of_getElem? (i := 137) rfl))) (notFace_of_selects (args := #[]) (mvT hZ (hw _ (List.mem_of_getElem? (i := 139) rfl)))) (mvT hZ (hw _ (List.mem_of_getElem? (i := 139) rfl))) (mvT hZ (hw _ (List.mem_of_getElem? (i := 138) rfl))) (by decide) (backOf (W := 3) (rm17 l Z a0 hw [] cho o1 h3 n0 Z3 f7) hZ (hw _ (List.mem_of_getElem? (i := 140) rfl)) (hw _ (List.mem_of_getElem? (i := 125) rfl)) (by decide) (by decide)) q6a q6c (g := (mkF m 62 #[.val (.ref o0), .val (.ref o1), .val (.ref o2), .unset] [(.ref cho), (.ref o1), (.ref b3), (.ref b3)])) rfl (by rw [hml]; rfl) (Steps.refl _) (argsL := []) (rest := [(.ref o1), (.ref b3), (.ref b3)]) (lenOf pd_2 rfl) rfl (by show 2 * 0 + _ ≤ _; exact Nat.le_of_eq rfl) (hb hby dA2_62) (fun _ _ => ⟨rfl, e5, (by decide : 1 + 0 ≤ _), (by decide : 4 + 0 ≤ _)⟩)
  dsimp only [Pt.U, Pt.locs, Pt.cells, Pt.slots] at X6 l6 y6 z6 st6 hQ6
  subst l6 y6 z6
  obtain ⟨rfl, N6q, e6⟩ := hQ6
  have N6 := Fr.app N0 N6q
  have f10 := (Eu.ext E3)
  have f11 := (Fm.ext E3)
  obtain ⟨cq9, kq9, q9a, q9b, q9c⟩ := isOf hZ e6 f10
  obtain ⟨_, _, ⟨T9, L9, k9, n9⟩, -, X9, ⟨Lc9, hQ9, l9, y9, z9⟩, st9⟩ := X6.virtualBack hx (y := (⟨"com/example/trusted_cut/trustedcut/program/Unifier", "sharingMarkOf", "(Lcom/example/trusted_cut/trustedcut/program/Unifier;)Lcom/example/trusted_cut/trustedcut/program/Unifier;"⟩ : MethodName)) (z := (⟨"com/example/trusted_cut/trustedcut/program/Unifier", "sharingMarkOf", "(Lcom/example/trusted_cut/trustedcut/program/Unifier;)Lcom/example/trusted_cut/trustedcut/program/Unifier;"⟩ : MethodName)) hown (mvT hZ (hw _ (List.mem_of_getElem? (i := 141) rfl))) (mvT hZ (hw _ (List.mem_of_getElem? (i := 142) rfl))) (notFace_of_selects (args := #[]) (mvT hZ (hw _ (List.mem_of_getElem? (i := 144) rfl)))) (mvT hZ (hw _ (List.mem_of_getElem? (i := 144) rfl))) (mvT hZ (hw _ (List.mem_of_getElem? (i := 143) rfl))) (by decide) (backOf (W := 2) (rm18 l Z a0 hw [] o1 k h3 n0 Z3 f10 f11 g_o1) hZ (hw _ (List.mem_of_getElem? (i := 145) rfl)) (hw _ (List.mem_of_getElem? (i := 68) rfl)) (by decide) (by decide)) q9a q9c (g := (mkF m 65 #[.val (.ref o0), .val (.ref o1), .val (.ref o2), .unset] [(.ref o1), (.ref o1), (.ref b3), (.ref b3)])) rfl (by rw [hml]; rfl) (Steps.refl _) (argsL := [(.ref o1)]) (rest := [(.ref b3), (.ref b3)]) (lenOf pd_3 rfl) rfl (by show 2 * 0 + _ ≤ _; exact Nat.le_of_eq rfl) (hb hby dA2_65) (fun _ _ => ⟨rfl, e6, (by decide : 1 + 0 ≤ _), (by decide : 4 + 0 ≤ _)⟩)
  dsimp only [Pt.U, Pt.locs, Pt.cells, Pt.slots] at X9 l9 y9 z9 st9 hQ9
  subst l9 y9 z9
  obtain ⟨rfl, N9q, K9, E9o, F9_0⟩ := hQ9
  have KK9 : Keep h0 T9.heap [o0, o1, cho] := Keep.trans K3 K9 (own_side1 (Or.inl (List.mem_of_getElem? (i := 1) rfl)))
  have Z9 : n0 ≤ T9.heap.size := Nat.le_trans Z0 KK9.1
  have N9 := Fr.app N6 N9q
  have f13 := (A3.keep K9)
  have f14 := (F_unifier_b3.keep K9 (own_notin1 (Ne.symm ne_o1_b3)))
  have f15 := (F_goals_b3.keep K9 (own_notin1 (Ne.symm ne_o1_b3)))
  have f16 := (F_walk_b3.keep K9 (own_notin1 (Ne.symm ne_o1_b3)))
  have f17 := (F_next_b3.keep K9 (own_notin1 (Ne.symm ne_o1_b3)))
  obtain ⟨_, _, ⟨T12, L12, k12, n12⟩, -, X12, ⟨Lc12, hQ12, l12, y12, z12⟩, st12⟩ := X9.specialBack hx (y := (⟨"com/example/trusted_cut/trustedcut/program/Choice", "<init>", "(Lcom/example/trusted_cut/trustedcut/program/Unifier;Ljava/util/List;Lcom/example/trusted_cut/trustedcut/program/ClauseWalk;)V"⟩ : MethodName)) rfl hown (mvT hZ (hw _ (List.mem_of_getElem? (i := 126) rfl))) (mvT hZ (hw _ (List.mem_of_getElem? (i := 127) rfl))) (mvT hZ (hw _ (List.mem_of_getElem? (i := 128) rfl))) (by decide) (backOf (W := 1) (rm16 l Z a0 hw [] b3 o1 o2 T9.heap n0 Z9 f13 f14 f15 f16 f17 g_b3) hZ (hw _ (List.mem_of_getElem? (i := 128) rfl)) (hw _ (List.mem_of_getElem? (i := 125) rfl)) (by decide) (by decide)) (g := (mkF m 70 #[.val (.ref o0), .val (.ref o1), .val (.ref o2), .unset] [.null, (.ref o2), (.ref o1), (.ref b3), (.ref b3)])) rfl (by rw [hml]; rfl) (Steps.refl _) (a := b3) (argsL := [(.ref o1), (.ref o2), .null]) (rest := [(.ref b3)]) (lenOf pd_1 rfl) rfl (by show 2 * 0 + _ ≤ _; exact Nat.le_of_eq rfl) (hb hby dA2_70) (fun _ _ => ⟨rfl, rfl, (by decide : 1 + 0 ≤ _), (by decide : 4 + 0 ≤ _)⟩)
  dsimp only [Pt.U, Pt.locs, Pt.cells, Pt.slots] at X12 l12 y12 z12 st12 hQ12
  subst l12 y12 z12
  obtain ⟨rfl, N12q, K12, E12o, F12_0, F12_1⟩ := hQ12
  have KK12 : Keep h0 T12.heap [o0, o1, cho] := Keep.trans KK9 K12 (own_side1 (Or.inr sz_b3))
  have Z12 : n0 ≤ T12.heap.size := Nat.le_trans Z0 KK12.1
  have N12 := Fr.app N9 N12q
  have f18 := (((F_last.ext E3).keep K9 (own_notin1 ne_o0_o1)).keep K12 (own_notin1 ne_o0_b3))
  obtain ⟨T19, X19, e19, st19⟩ := getF X12 hx hZ hown (host := "") (Or.inl (hw _ (List.mem_of_getElem? (i := 94) rfl))) Via.refl rfl f18 (g := (mkF m 75 #[.val (.ref o0), .val (.ref o1), .val (.ref o2), .val (.ref b3)] [(.ref o0)])) rfl rfl (hb hby dA2_75)
  have f21 := ((f8.keep K9).keep K12)
  have f22 := (((Fcn.ext E3).keep K9 (own_notin1 (Ne.symm ne_o1_c))).keep K12 (own_notin1 ne_cho_b3))
  obtain ⟨cq20, kq20, q20a, q20b, q20c⟩ := isOf hZ e19 f21
  obtain ⟨_, _, ⟨T20, L20, k20, n20⟩, -, X20, ⟨Lc20, hQ20, l20, y20, z20⟩, st20⟩ := X19.virtualBack hx (y := (⟨"com/example/trusted_cut/trustedcut/program/Choice", "follow", "(Lcom/example/trusted_cut/trustedcut/program/Choice;)V"⟩ : MethodName)) (z := (⟨"com/example/trusted_cut/trustedcut/program/Choice", "follow", "(Lcom/example/trusted_cut/trustedcut/program/Choice;)V"⟩ : MethodName)) hown (mvT hZ (hw _ (List.mem_of_getElem? (i := 146) rfl))) (mvT hZ (hw _ (List.mem_of_getElem? (i := 147) rfl))) (notFace_of_selects (args := #[]) (mvT hZ (hw _ (List.mem_of_getElem? (i := 149) rfl)))) (mvT hZ (hw _ (List.mem_of_getElem? (i := 149) rfl))) (mvT hZ (hw _ (List.mem_of_getElem? (i := 148) rfl))) (by decide) (backOf (W := 0) (rm19 l Z a0 hw [] cho b3 T12.heap n0 Z12 f21 f22 g_cho) hZ (hw _ (List.mem_of_getElem? (i := 150) rfl)) (hw _ (List.mem_of_getElem? (i := 125) rfl)) (by decide) (by decide)) q20a q20c (g := (mkF m 79 #[.val (.ref o0), .val (.ref o1), .val (.ref o2), .val (.ref b3)] [(.ref b3), (.ref cho)])) rfl (by rw [hml]; rfl) (Steps.refl _) (argsL := [(.ref b3)]) (rest := []) (lenOf pd_4 rfl) rfl (by show 2 * 0 + _ ≤ _; exact Nat.le_of_eq rfl) (hb hby dA2_79) (fun _ _ => ⟨rfl, e19, (by decide : 1 + 0 ≤ _), (by decide : 4 + 0 ≤ _)⟩)
  dsimp only [Pt.U, Pt.locs, Pt.cells, Pt.slots] at X20 l20 y20 z20 st20 hQ20
  subst l20 y20 z20
  obtain ⟨rfl, N20q, K20, E20o⟩ := hQ20
  have KK20 : Keep h0 T20.heap [o0, o1, cho] := Keep.trans KK12 K20 (own_side1 (Or.inl (List.mem_of_getElem? (i := 2) rfl)))
  have Z20 : n0 ≤ T20.heap.size := Nat.le_trans Z0 KK20.1
  have N20 := Fr.app N12 N20q
  have f23 := ((((Eo.ext E3).keep K9).keep K12).keep K20)
  have f24 := (f18.keep K20 (own_notin1 ne_o0_c))
  obtain ⟨T25, h25, X25, e25, W25, st25⟩ := putF X20 hx hZ hown (host := "") (Or.inl (hw _ (List.mem_of_getElem? (i := 94) rfl))) Via.refl rfl f24 f23 (Or.inl (hw _ (List.mem_of_getElem? (i := 95) rfl))) (hw _ (List.mem_of_getElem? (i := 1) rfl)) (ty := (.object "com/example/trusted_cut/trustedcut/program/Choice")) (by decide) rfl rfl (g := (mkF m 84 #[.val (.ref o0), .val (.ref o1), .val (.ref o2), .val (.ref b3)] [(.ref b3), (.ref o0)])) rfl rfl (hb hby dA2_84)
  have Fw25 := f24.same W25
  have K25 : Keep h0 h25 [o0, o1, cho] := Keep.wr KK20 W25 (Or.inl (List.mem_of_getElem? (i := 0) rfl))
  have Z25 : n0 ≤ h25.size := Nat.le_trans Z0 K25.1
  have N25 := Fr.snoc X25 N20 g_o0
  have f26 := (((((F_size.ext E3).keep K9 (own_notin1 ne_o0_o1)).keep K12 (own_notin1 ne_o0_b3)).keep K20 (own_notin1 ne_o0_c)).other W25 (Or.inr (slot_ne (Or.inl (hw _ (List.mem_of_getElem? (i := 87) rfl))) (Or.inl (hw _ (List.mem_of_getElem? (i := 95) rfl))) (by decide) (t := .int) (t' := (.object "com/example/trusted_cut/trustedcut/program/Choice")) (by decide) (by decide))))
  obtain ⟨T27, X27, e27, st27⟩ := getF X25 hx hZ hown (host := "") (Or.inl (hw _ (List.mem_of_getElem? (i := 86) rfl))) Via.refl e25 f26 (g := (mkF m 89 #[.val (.ref o0), .val (.ref o1), .val (.ref o2), .val (.ref b3)] [(.ref o0), (.ref o0)])) rfl rfl (hb hby dA2_89)
  have f28 := (f23.wr W25)
  obtain ⟨T29, h29, X29, e29, W29, st29⟩ := putF X27 hx hZ hown (host := "") (Or.inl (hw _ (List.mem_of_getElem? (i := 86) rfl))) Via.refl e27 f26 f28 (Or.inl (hw _ (List.mem_of_getElem? (i := 87) rfl))) (hw _ (List.mem_of_getElem? (i := 1) rfl)) (ty := .int) (by decide) rfl rfl (g := (mkF m 94 #[.val (.ref o0), .val (.ref o1), .val (.ref o2), .val (.ref b3)] [(.int (3 : Int32)), (.ref o0)])) rfl rfl (hb hby dA2_94)
  have Fw29 := f26.same W29
  have K29 : Keep h0 h29 [o0, o1, cho] := Keep.wr K25 W29 (Or.inl (List.mem_of_getElem? (i := 0) rfl))
  have Z29 : n0 ≤ h29.size := Nat.le_trans Z0 K29.1
  have N29 := Fr.snoc X29 N25 g_o0
  have f30 := (f28.wr W29)
  have f31 := ((((((F_firstUnifier.ext E3).keep K9 (own_notin1 ne_o0_o1)).keep K12 (own_notin1 ne_o0_b3)).keep K20 (own_notin1 ne_o0_c)).other W25 (Or.inr (slot_ne (Or.inl (hw _ (List.mem_of_getElem? (i := 89) rfl))) (Or.inl (hw _ (List.mem_of_getElem? (i := 95) rfl))) (by decide) (t := (.object "com/example/trusted_cut/trustedcut/program/Unifier")) (t' := (.object "com/example/trusted_cut/trustedcut/program/Choice")) (by decide) (by decide)))).other W29 (Or.inr (slot_ne (Or.inl (hw _ (List.mem_of_getElem? (i := 89) rfl))) (Or.inl (hw _ (List.mem_of_getElem? (i := 87) rfl))) (by decide) (t := (.object "com/example/trusted_cut/trustedcut/program/Unifier")) (t' := .int) (by decide) (by decide))))
  have f32 := ((((((F_firstGoals.ext E3).keep K9 (own_notin1 ne_o0_o1)).keep K12 (own_notin1 ne_o0_b3)).keep K20 (own_notin1 ne_o0_c)).other W25 (Or.inr (slot_ne (Or.inl (hw _ (List.mem_of_getElem? (i := 91) rfl))) (Or.inl (hw _ (List.mem_of_getElem? (i := 95) rfl))) (by decide) (t := (.object "java/util/List")) (t' := (.object "com/example/trusted_cut/trustedcut/program/Choice")) (by decide) (by decide)))).other W29 (Or.inr (slot_ne (Or.inl (hw _ (List.mem_of_getElem? (i := 91) rfl))) (Or.inl (hw _ (List.mem_of_getElem? (i := 87) rfl))) (by decide) (t := (.object "java/util/List")) (t' := .int) (by decide) (by decide))))
  have f33 := (((((f4.keep K9 (own_notin1 ne_o0_o1)).keep K12 (own_notin1 ne_o0_b3)).keep K20 (own_notin1 ne_o0_c)).other W25 (Or.inr (slot_ne (Or.inl (hw _ (List.mem_of_getElem? (i := 93) rfl))) (Or.inl (hw _ (List.mem_of_getElem? (i := 95) rfl))) (by decide) (t := (.object "com/example/trusted_cut/trustedcut/program/Choice")) (t' := (.object "com/example/trusted_cut/trustedcut/program/Choice")) (by decide) (by decide)))).other W29 (Or.inr (slot_ne (Or.inl (hw _ (List.mem_of_getElem? (i := 93) rfl))) (Or.inl (hw _ (List.mem_of_getElem? (i := 87) rfl))) (by decide) (t := (.object "com/example/trusted_cut/trustedcut/program/Choice")) (t' := .int) (by decide) (by decide))))
  have f34 := (Fw25.other W29 (Or.inr (slot_ne (Or.inl (hw _ (List.mem_of_getElem? (i := 95) rfl))) (Or.inl (hw _ (List.mem_of_getElem? (i := 87) rfl))) (by decide) (t := (.object "com/example/trusted_cut/trustedcut/program/Choice")) (t' := .int) (by decide) (by decide))))
  obtain ⟨fs, hr, hrun, hended, hW, hsame⟩ := X29.leave (v := none) (fun _ => rfl)
  refine ⟨_, _, pre0 _ ?_, hrun, hended, _, _, rfl, ?_, ⟨_, rfl⟩, hW, hsame.mono (by decide) (by decide)⟩
  · show Steps p.tables e below (s₁.setTop (mkF m 0 #[.val (.ref o0), .val (.ref o1), .val (.ref o2), .unset] [])) _
    refine XS.aloadN X0.here hx rfl (hb hby dA2_0) rfl rfl ?_
    show Steps p.tables e below (s₁.setTop (mkF m 1 #[.val (.ref o0), .val (.ref o1), .val (.ref o2), .unset] [(.ref o0)])) _
    refine st1 _ ?_
    show Steps p.tables e below (T1.setTop (mkF m 4 #[.val (.ref o0), .val (.ref o1), .val (.ref o2), .unset] [(.int (2 : Int32))])) _
    refine XS.ifYes X1.here hx rfl (pc0 := 4) (pc' := 20) rfl (hb hby dA2_4) rfl ((if0 _ _).trans (feq (show ¬ ((2 : Int32) = (0 : Int32)) from (by decide))).2) (by decide) (by decide) ?_
    show Steps p.tables e below (T1.setTop (mkF m 20 #[.val (.ref o0), .val (.ref o1), .val (.ref o2), .unset] [])) _
    refine XS.aloadN X1.here hx rfl (hb hby dA2_20) rfl rfl ?_
    show Steps p.tables e below (T1.setTop (mkF m 21 #[.val (.ref o0), .val (.ref o1), .val (.ref o2), .unset] [(.ref o0)])) _
    refine st2 _ ?_
    show Steps p.tables e below (T2.setTop (mkF m 24 #[.val (.ref o0), .val (.ref o1), .val (.ref o2), .unset] [(.int (2 : Int32))])) _
    refine XS.iconst X2.here hx rfl (hb hby dA2_24) ?_
    show Steps p.tables e below (T2.setTop (mkF m 25 #[.val (.ref o0), .val (.ref o1), .val (.ref o2), .unset] [(.int (1 : Int32)), (.int (2 : Int32))])) _
    refine XS.icmpYes X2.here hx rfl (pc0 := 25) (pc' := 53) rfl (hb hby dA2_25) rfl (feq (show ¬ ((2 : Int32) = (1 : Int32)) from (by decide))).2 (by decide) (by decide) ?_
    show Steps p.tables e below (T2.setTop (mkF m 53 #[.val (.ref o0), .val (.ref o1), .val (.ref o2), .unset] [])) _
    refine st3 _ ?_
    show Steps p.tables e below (T3.setTop (mkF m 56 #[.val (.ref o0), .val (.ref o1), .val (.ref o2), .unset] [(.ref b3)])) _
    refine XS.dup X3.here hx rfl (hb hby dA2_56) rfl rfl ?_
    show Steps p.tables e below (T3.setTop (mkF m 57 #[.val (.ref o0), .val (.ref o1), .val (.ref o2), .unset] [(.ref b3), (.ref b3)])) _
    refine XS.aloadN X3.here hx rfl (hb hby dA2_57) rfl rfl ?_
    show Steps p.tables e below (T3.setTop (mkF m 58 #[.val (.ref o0), .val (.ref o1), .val (.ref o2), .unset] [(.ref o1), (.ref b3), (.ref b3)])) _
    refine XS.aloadN X3.here hx rfl (hb hby dA2_58) rfl rfl ?_
    show Steps p.tables e below (T3.setTop (mkF m 59 #[.val (.ref o0), .val (.ref o1), .val (.ref o2), .unset] [(.ref o0), (.ref o1), (.ref b3), (.ref b3)])) _
    refine st5 _ ?_
    show Steps p.tables e below (T5.setTop (mkF m 62 #[.val (.ref o0), .val (.ref o1), .val (.ref o2), .unset] [(.ref cho), (.ref o1), (.ref b3), (.ref b3)])) _
    refine st6.trans ?_
    show Steps p.tables e below (T6.setTop (mkF m 65 #[.val (.ref o0), .val (.ref o1), .val (.ref o2), .unset] [(.ref o1), (.ref o1), (.ref b3), (.ref b3)])) _
    refine st9.trans ?_
    show Steps p.tables e below (T9.setTop (mkF m 68 #[.val (.ref o0), .val (.ref o1), .val (.ref o2), .unset] [(.ref o1), (.ref b3), (.ref b3)])) _
    refine XS.aloadN X9.here hx rfl (hb hby dA2_68) rfl rfl ?_
    show Steps p.tables e below (T9.setTop (mkF m 69 #[.val (.ref o0), .val (.ref o1), .val (.ref o2), .unset] [(.ref o2), (.ref o1), (.ref b3), (.ref b3)])) _
    refine XS.aconstNull X9.here hx rfl (hb hby dA2_69) ?_
    show Steps p.tables e below (T9.setTop (mkF m 70 #[.val (.ref o0), .val (.ref o1), .val (.ref o2), .unset] [.null, (.ref o2), (.ref o1), (.ref b3), (.ref b3)])) _
    refine st12.trans ?_
    show Steps p.tables e below (T12.setTop (mkF m 73 #[.val (.ref o0), .val (.ref o1), .val (.ref o2), .unset] [(.ref b3)])) _
    refine XS.astoreN X12.here hx rfl (hb hby dA2_73) rfl rfl (l' := #[.val (.ref o0), .val (.ref o1), .val (.ref o2), .val (.ref b3)]) rfl ?_
    show Steps p.tables e below (T12.setTop (mkF m 74 #[.val (.ref o0), .val (.ref o1), .val (.ref o2), .val (.ref b3)] [])) _
    refine XS.aloadN X12.here hx rfl (hb hby dA2_74) rfl rfl ?_
    show Steps p.tables e below (T12.setTop (mkF m 75 #[.val (.ref o0), .val (.ref o1), .val (.ref o2), .val (.ref b3)] [(.ref o0)])) _
    refine st19 _ ?_
    show Steps p.tables e below (T19.setTop (mkF m 78 #[.val (.ref o0), .val (.ref o1), .val (.ref o2), .val (.ref b3)] [(.ref cho)])) _
    refine XS.aloadN X19.here hx rfl (hb hby dA2_78) rfl rfl ?_
    show Steps p.tables e below (T19.setTop (mkF m 79 #[.val (.ref o0), .val (.ref o1), .val (.ref o2), .val (.ref b3)] [(.ref b3), (.ref cho)])) _
    refine st20.trans ?_
    show Steps p.tables e below (T20.setTop (mkF m 82 #[.val (.ref o0), .val (.ref o1), .val (.ref o2), .val (.ref b3)] [])) _
    refine XS.aloadN X20.here hx rfl (hb hby dA2_82) rfl rfl ?_
    show Steps p.tables e below (T20.setTop (mkF m 83 #[.val (.ref o0), .val (.ref o1), .val (.ref o2), .val (.ref b3)] [(.ref o0)])) _
    refine XS.aloadN X20.here hx rfl (hb hby dA2_83) rfl rfl ?_
    show Steps p.tables e below (T20.setTop (mkF m 84 #[.val (.ref o0), .val (.ref o1), .val (.ref o2), .val (.ref b3)] [(.ref b3), (.ref o0)])) _
    refine st25 _ ?_
    show Steps p.tables e below (T25.setTop (mkF m 87 #[.val (.ref o0), .val (.ref o1), .val (.ref o2), .val (.ref b3)] [])) _
    refine XS.aloadN X25.here hx rfl (hb hby dA2_87) rfl rfl ?_
    show Steps p.tables e below (T25.setTop (mkF m 88 #[.val (.ref o0), .val (.ref o1), .val (.ref o2), .val (.ref b3)] [(.ref o0)])) _
    refine XS.dup X25.here hx rfl (hb hby dA2_88) rfl rfl ?_
    show Steps p.tables e below (T25.setTop (mkF m 89 #[.val (.ref o0), .val (.ref o1), .val (.ref o2), .val (.ref b3)] [(.ref o0), (.ref o0)])) _
    refine st27 _ ?_
    show Steps p.tables e below (T27.setTop (mkF m 92 #[.val (.ref o0), .val (.ref o1), .val (.ref o2), .val (.ref b3)] [(.int (2 : Int32)), (.ref o0)])) _
    refine XS.iconst X27.here hx rfl (hb hby dA2_92) ?_
    show Steps p.tables e below (T27.setTop (mkF m 93 #[.val (.ref o0), .val (.ref o1), .val (.ref o2), .val (.ref b3)] [(.int (1 : Int32)), (.int (2 : Int32)), (.ref o0)])) _
    refine XS.iadd X27.here hx rfl (hb hby dA2_93) rfl ?_
    show Steps p.tables e below (T27.setTop (mkF m 94 #[.val (.ref o0), .val (.ref o1), .val (.ref o2), .val (.ref b3)] [(.int (3 : Int32)), (.ref o0)])) _
    refine st29 _ ?_
    show Steps p.tables e below (T29.setTop (mkF m 97 #[.val (.ref o0), .val (.ref o1), .val (.ref o2), .val (.ref b3)] [])) _
    exact X29.returnOut hx Bd.returns (hb hby dA2_97) hr
  · show QA2 Z o0 o1 x y cho h0 n0 _ T29.heap _
    rw [e29]
    exact ⟨b3, rfl, N29, K29, f30, Fw29, f31, f32, f33, f34⟩
theorem dCL_0 : decode prog_73_method_4_code 0 = .ok (.aload_n 0, 1) := by decide +kernel
theorem dCL_1 : decode prog_73_method_4_code 1 = .ok (.iconst 0, 1) := by decide +kernel
theorem dCL_2 : decode prog_73_method_4_code 2 = .ok (.putfield 7, 3) := by decide +kernel
theorem dCL_5 : decode prog_73_method_4_code 5 = .ok (.aload_n 0, 1) := by decide +kernel
theorem dCL_6 : decode prog_73_method_4_code 6 = .ok (.aconst_null, 1) := by decide +kernel
theorem dCL_7 : decode prog_73_method_4_code 7 = .ok (.putfield 21, 3) := by decide +kernel
theorem dCL_10 : decode prog_73_method_4_code 10 = .ok (.aload_n 0, 1) := by decide +kernel
theorem dCL_11 : decode prog_73_method_4_code 11 = .ok (.aconst_null, 1) := by decide +kernel
theorem dCL_12 : decode prog_73_method_4_code 12 = .ok (.putfield 13, 3) := by decide +kernel
theorem dCL_15 : decode prog_73_method_4_code 15 = .ok (.aload_n 0, 1) := by decide +kernel
theorem dCL_16 : decode prog_73_method_4_code 16 = .ok (.aconst_null, 1) := by decide +kernel
theorem dCL_17 : decode prog_73_method_4_code 17 = .ok (.putfield 17, 3) := by decide +kernel
theorem dCL_20 : decode prog_73_method_4_code 20 = .ok (.aload_n 0, 1) := by decide +kernel
theorem dCL_21 : decode prog_73_method_4_code 21 = .ok (.aconst_null, 1) := by decide +kernel
theorem dCL_22 : decode prog_73_method_4_code 22 = .ok (.putfield 25, 3) := by decide +kernel
theorem dCL_25 : decode prog_73_method_4_code 25 = .ok (.return_, 1) := by decide +kernel
theorem ef_CL (m : MethodId) (o0 : Addr) : entryFrame m #[(.ref o0)] 1 = mkF m 0 #[.val (.ref o0)] [] := by first | (simp [entryFrame, mkF, argsToLocals, Value.category]; done) | rfl
def QCL (Z : State) (o0 : Addr) (h0 : Heap) (n0 : Nat) (v : Option Value) (h : Heap) (L : List Loc) : Prop := v = none ∧ Fr n0 L ∧ Keep h0 h [o0] ∧ Exa Z h o0 "com/example/trusted_cut/trustedcut/program/Selections" ∧ Fld Z h o0 "com/example/trusted_cut/trustedcut/program/Selections" "size" "I" (.int (0 : Int32)) ∧ Fld Z h o0 "com/example/trusted_cut/trustedcut/program/Selections" "firstUnifier" "Lcom/example/trusted_cut/trustedcut/program/Unifier;" .null ∧ Fld Z h o0 "com/example/trusted_cut/trustedcut/program/Selections" "firstGoals" "Ljava/util/List;" .null ∧ Fld Z h o0 "com/example/trusted_cut/trustedcut/program/Selections" "more" "Lcom/example/trusted_cut/trustedcut/program/Choice;" .null ∧ Fld Z h o0 "com/example/trusted_cut/trustedcut/program/Selections" "last" "Lcom/example/trusted_cut/trustedcut/program/Choice;" .null
set_option maxRecDepth 65536 in
set_option maxHeartbeats 40000000 in
theorem rmCL (l : Launch) (Z : State) (a0 : Array Value) (hw : ∀ d ∈ tables_1, d.before a0 Z = true) (ws : List Jvm.Cond) (o0 : Addr) (u_size u_firstUnifier u_firstGoals u_more u_last : Value) (h0 : Heap) (n0 : Nat) (Z0 : n0 ≤ h0.size) (Eo : Exa Z h0 o0 "com/example/trusted_cut/trustedcut/program/Selections") (F_size : Fld Z h0 o0 "com/example/trusted_cut/trustedcut/program/Selections" "size" "I" u_size) (F_firstUnifier : Fld Z h0 o0 "com/example/trusted_cut/trustedcut/program/Selections" "firstUnifier" "Lcom/example/trusted_cut/trustedcut/program/Unifier;" u_firstUnifier) (F_firstGoals : Fld Z h0 o0 "com/example/trusted_cut/trustedcut/program/Selections" "firstGoals" "Ljava/util/List;" u_firstGoals) (F_more : Fld Z h0 o0 "com/example/trusted_cut/trustedcut/program/Selections" "more" "Lcom/example/trusted_cut/trustedcut/program/Choice;" u_more) (F_last : Fld Z h0 o0 "com/example/trusted_cut/trustedcut/program/Selections" "last" "Lcom/example/trusted_cut/trustedcut/program/Choice;" u_last) (g_o0 : n0 ≤ o0) :
    MetFree l (⟨"com/example/trusted_cut/trustedcut/program/Selections", "clear", "()V"⟩ : MethodName) (head1 (Jvm.Cond.code (⟨"com/example/trusted_cut/trustedcut/program/Selections", "clear", "()V"⟩ : MethodName) prog_73_method_4_code 1 none :: ws) ({ frames := 0, cells := 0, slots := 0, locals := 0 } : Room)) (fun a U => a = #[(.ref o0)] ∧ Z.Warmed39 U.vm ∧ U.heap = h0) (fun _ _ _ _ _ => True) (fun _ U o U' => ∃ v L, o = .returned v ∧ QCL Z o0 h0 n0 v U'.heap L ∧ FrameEnd U o U' L ({ frames := 0, cells := 0, slots := 0, locals := 0 } : Room).cells ({ frames := 0, cells := 0, slots := 0, locals := 0 } : Room).slots) := by
  refine MetFree.of_bodySF (plainFor_of_name pn_0) hisR ?_
  intro p e s m args below meth c s₁ Bd hml0 hP hK
  obtain ⟨rfl, hZ, hh⟩ := hP
  have hx := Bd.exec
  have hby := Bd.bytes
  have hml : c.maxLocals = 1 := hml0
  have hown : s.vm.findClass "com/example/trusted_cut/trustedcut/program/Selections" = some m.cls := findClass_of_methodNamed Bd.named
  have hnm := (name_of_methodNamed Bd.named Bd.method).1
  have X0 : Stand p l e ({ frames := 0, cells := 0, slots := 0, locals := 0 } : Room) s m #[(.ref o0)] below meth c s₁ [] 0 0 := Stand.of_body Bd
  have e0 : s₁.heap = h0 := by rw [← hh, Bd.state]; rfl
  have N0 := Fr.nil n0
  have pre0 : ∀ t, Steps p.tables e below (s₁.setTop (mkF m 0 #[.val (.ref o0)] [])) t → Steps p.tables e below (s₁.setTop (entryFrame m #[(.ref o0)] 1)) t := fun t k => castTop (ef_CL m o0) k
  obtain ⟨T1, h1, X1, e1, W1, st1⟩ := putF X0 hx hZ hown (host := "") (Or.inl (hw _ (List.mem_of_getElem? (i := 86) rfl))) Via.refl e0 F_size Eo (Or.inl (hw _ (List.mem_of_getElem? (i := 87) rfl))) (hw _ (List.mem_of_getElem? (i := 1) rfl)) (ty := .int) (by decide) rfl rfl (g := (mkF m 2 #[.val (.ref o0)] [(.int (0 : Int32)), (.ref o0)])) rfl rfl (hb hby dCL_2)
  have Fw1 := F_size.same W1
  have K1 : Keep h0 h1 [o0] := Keep.wr (Keep.refl h0 [o0]) W1 (Or.inl (List.mem_of_getElem? (i := 0) rfl))
  have Z1 : n0 ≤ h1.size := Nat.le_trans Z0 K1.1
  have N1 := Fr.snoc X1 N0 g_o0
  have f2 := (Eo.wr W1)
  have f3 := (F_firstUnifier.other W1 (Or.inr (slot_ne (Or.inl (hw _ (List.mem_of_getElem? (i := 89) rfl))) (Or.inl (hw _ (List.mem_of_getElem? (i := 87) rfl))) (by decide) (t := (.object "com/example/trusted_cut/trustedcut/program/Unifier")) (t' := .int) (by decide) (by decide))))
  obtain ⟨T4, h4, X4, e4, W4, st4⟩ := putF X1 hx hZ hown (host := "") (Or.inl (hw _ (List.mem_of_getElem? (i := 88) rfl))) Via.refl e1 f3 f2 (Or.inl (hw _ (List.mem_of_getElem? (i := 89) rfl))) (hw _ (List.mem_of_getElem? (i := 1) rfl)) (ty := (.object "com/example/trusted_cut/trustedcut/program/Unifier")) (by decide) rfl rfl (g := (mkF m 7 #[.val (.ref o0)] [.null, (.ref o0)])) rfl rfl (hb hby dCL_7)
  have Fw4 := f3.same W4
  have K4 : Keep h0 h4 [o0] := Keep.wr K1 W4 (Or.inl (List.mem_of_getElem? (i := 0) rfl))
  have Z4 : n0 ≤ h4.size := Nat.le_trans Z0 K4.1
  have N4 := Fr.snoc X4 N1 g_o0
  have f5 := (f2.wr W4)
  have f6 := ((F_firstGoals.other W1 (Or.inr (slot_ne (Or.inl (hw _ (List.mem_of_getElem? (i := 91) rfl))) (Or.inl (hw _ (List.mem_of_getElem? (i := 87) rfl))) (by decide) (t := (.object "java/util/List")) (t' := .int) (by decide) (by decide)))).other W4 (Or.inr (slot_ne (Or.inl (hw _ (List.mem_of_getElem? (i := 91) rfl))) (Or.inl (hw _ (List.mem_of_getElem? (i := 89) rfl))) (by decide) (t := (.object "java/util/List")) (t' := (.object "com/example/trusted_cut/trustedcut/program/Unifier")) (by decide) (by decide))))
  obtain ⟨T7, h7, X7, e7, W7, st7⟩ := putF X4 hx hZ hown (host := "") (Or.inl (hw _ (List.mem_of_getElem? (i := 90) rfl))) Via.refl e4 f6 f5 (Or.inl (hw _ (List.mem_of_getElem? (i := 91) rfl))) (hw _ (List.mem_of_getElem? (i := 1) rfl)) (ty := (.object "java/util/List")) (by decide) rfl rfl (g := (mkF m 12 #[.val (.ref o0)] [.null, (.ref o0)])) rfl rfl (hb hby dCL_12)
  have Fw7 := f6.same W7
  have K7 : Keep h0 h7 [o0] := Keep.wr K4 W7 (Or.inl (List.mem_of_getElem? (i := 0) rfl))
  have Z7 : n0 ≤ h7.size := Nat.le_trans Z0 K7.1
  have N7 := Fr.snoc X7 N4 g_o0
  have f8 := (f5.wr W7)
  have f9 := (((F_more.other W1 (Or.inr (slot_ne (Or.inl (hw _ (List.mem_of_getElem? (i := 93) rfl))) (Or.inl (hw _ (List.mem_of_getElem? (i := 87) rfl))) (by decide) (t := (.object "com/example/trusted_cut/trustedcut/program/Choice")) (t' := .int) (by decide) (by decide)))).other W4 (Or.inr (slot_ne (Or.inl (hw _ (List.mem_of_getElem? (i := 93) rfl))) (Or.inl (hw _ (List.mem_of_getElem? (i := 89) rfl))) (by decide) (t := (.object "com/example/trusted_cut/trustedcut/program/Choice")) (t' := (.object "com/example/trusted_cut/trustedcut/program/Unifier")) (by decide) (by decide)))).other W7 (Or.inr (slot_ne (Or.inl (hw _ (List.mem_of_getElem? (i := 93) rfl))) (Or.inl (hw _ (List.mem_of_getElem? (i := 91) rfl))) (by decide) (t := (.object "com/example/trusted_cut/trustedcut/program/Choice")) (t' := (.object "java/util/List")) (by decide) (by decide))))
  obtain ⟨T10, h10, X10, e10, W10, st10⟩ := putF X7 hx hZ hown (host := "") (Or.inl (hw _ (List.mem_of_getElem? (i := 92) rfl))) Via.refl e7 f9 f8 (Or.inl (hw _ (List.mem_of_getElem? (i := 93) rfl))) (hw _ (List.mem_of_getElem? (i := 1) rfl)) (ty := (.object "com/example/trusted_cut/trustedcut/program/Choice")) (by decide) rfl rfl (g := (mkF m 17 #[.val (.ref o0)] [.null, (.ref o0)])) rfl rfl (hb hby dCL_17)
  have Fw10 := f9.same W10
  have K10 : Keep h0 h10 [o0] := Keep.wr K7 W10 (Or.inl (List.mem_of_getElem? (i := 0) rfl))
  have Z10 : n0 ≤ h10.size := Nat.le_trans Z0 K10.1
  have N10 := Fr.snoc X10 N7 g_o0
  have f11 := (f8.wr W10)
  have f12 := ((((F_last.other W1 (Or.inr (slot_ne (Or.inl (hw _ (List.mem_of_getElem? (i := 95) rfl))) (Or.inl (hw _ (List.mem_of_getElem? (i := 87) rfl))) (by decide) (t := (.object "com/example/trusted_cut/trustedcut/program/Choice")) (t' := .int) (by decide) (by decide)))).other W4 (Or.inr (slot_ne (Or.inl (hw _ (List.mem_of_getElem? (i := 95) rfl))) (Or.inl (hw _ (List.mem_of_getElem? (i := 89) rfl))) (by decide) (t := (.object "com/example/trusted_cut/trustedcut/program/Choice")) (t' := (.object "com/example/trusted_cut/trustedcut/program/Unifier")) (by decide) (by decide)))).other W7 (Or.inr (slot_ne (Or.inl (hw _ (List.mem_of_getElem? (i := 95) rfl))) (Or.inl (hw _ (List.mem_of_getElem? (i := 91) rfl))) (by decide) (t := (.object "com/example/trusted_cut/trustedcut/program/Choice")) (t' := (.object "java/util/List")) (by decide) (by decide)))).other W10 (Or.inr (slot_ne (Or.inl (hw _ (List.mem_of_getElem? (i := 95) rfl))) (Or.inl (hw _ (List.mem_of_getElem? (i := 93) rfl))) (by decide) (t := (.object "com/example/trusted_cut/trustedcut/program/Choice")) (t' := (.object "com/example/trusted_cut/trustedcut/program/Choice")) (by decide) (by decide))))
  obtain ⟨T13, h13, X13, e13, W13, st13⟩ := putF X10 hx hZ hown (host := "") (Or.inl (hw _ (List.mem_of_getElem? (i := 94) rfl))) Via.refl e10 f12 f11 (Or.inl (hw _ (List.mem_of_getElem? (i := 95) rfl))) (hw _ (List.mem_of_getElem? (i := 1) rfl)) (ty := (.object "com/example/trusted_cut/trustedcut/program/Choice")) (by decide) rfl rfl (g := (mkF m 22 #[.val (.ref o0)] [.null, (.ref o0)])) rfl rfl (hb hby dCL_22)
  have Fw13 := f12.same W13
  have K13 : Keep h0 h13 [o0] := Keep.wr K10 W13 (Or.inl (List.mem_of_getElem? (i := 0) rfl))
  have Z13 : n0 ≤ h13.size := Nat.le_trans Z0 K13.1
  have N13 := Fr.snoc X13 N10 g_o0
  have f14 := (f11.wr W13)
  have f15 := ((((Fw1.other W4 (Or.inr (slot_ne (Or.inl (hw _ (List.mem_of_getElem? (i := 87) rfl))) (Or.inl (hw _ (List.mem_of_getElem? (i := 89) rfl))) (by decide) (t := .int) (t' := (.object "com/example/trusted_cut/trustedcut/program/Unifier")) (by decide) (by decide)))).other W7 (Or.inr (slot_ne (Or.inl (hw _ (List.mem_of_getElem? (i := 87) rfl))) (Or.inl (hw _ (List.mem_of_getElem? (i := 91) rfl))) (by decide) (t := .int) (t' := (.object "java/util/List")) (by decide) (by decide)))).other W10 (Or.inr (slot_ne (Or.inl (hw _ (List.mem_of_getElem? (i := 87) rfl))) (Or.inl (hw _ (List.mem_of_getElem? (i := 93) rfl))) (by decide) (t := .int) (t' := (.object "com/example/trusted_cut/trustedcut/program/Choice")) (by decide) (by decide)))).other W13 (Or.inr (slot_ne (Or.inl (hw _ (List.mem_of_getElem? (i := 87) rfl))) (Or.inl (hw _ (List.mem_of_getElem? (i := 95) rfl))) (by decide) (t := .int) (t' := (.object "com/example/trusted_cut/trustedcut/program/Choice")) (by decide) (by decide))))
  have f16 := (((Fw4.other W7 (Or.inr (slot_ne (Or.inl (hw _ (List.mem_of_getElem? (i := 89) rfl))) (Or.inl (hw _ (List.mem_of_getElem? (i := 91) rfl))) (by decide) (t := (.object "com/example/trusted_cut/trustedcut/program/Unifier")) (t' := (.object "java/util/List")) (by decide) (by decide)))).other W10 (Or.inr (slot_ne (Or.inl (hw _ (List.mem_of_getElem? (i := 89) rfl))) (Or.inl (hw _ (List.mem_of_getElem? (i := 93) rfl))) (by decide) (t := (.object "com/example/trusted_cut/trustedcut/program/Unifier")) (t' := (.object "com/example/trusted_cut/trustedcut/program/Choice")) (by decide) (by decide)))).other W13 (Or.inr (slot_ne (Or.inl (hw _ (List.mem_of_getElem? (i := 89) rfl))) (Or.inl (hw _ (List.mem_of_getElem? (i := 95) rfl))) (by decide) (t := (.object "com/example/trusted_cut/trustedcut/program/Unifier")) (t' := (.object "com/example/trusted_cut/trustedcut/program/Choice")) (by decide) (by decide))))
  have f17 := ((Fw7.other W10 (Or.inr (slot_ne (Or.inl (hw _ (List.mem_of_getElem? (i := 91) rfl))) (Or.inl (hw _ (List.mem_of_getElem? (i := 93) rfl))) (by decide) (t := (.object "java/util/List")) (t' := (.object "com/example/trusted_cut/trustedcut/program/Choice")) (by decide) (by decide)))).other W13 (Or.inr (slot_ne (Or.inl (hw _ (List.mem_of_getElem? (i := 91) rfl))) (Or.inl (hw _ (List.mem_of_getElem? (i := 95) rfl))) (by decide) (t := (.object "java/util/List")) (t' := (.object "com/example/trusted_cut/trustedcut/program/Choice")) (by decide) (by decide))))
  have f18 := (Fw10.other W13 (Or.inr (slot_ne (Or.inl (hw _ (List.mem_of_getElem? (i := 93) rfl))) (Or.inl (hw _ (List.mem_of_getElem? (i := 95) rfl))) (by decide) (t := (.object "com/example/trusted_cut/trustedcut/program/Choice")) (t' := (.object "com/example/trusted_cut/trustedcut/program/Choice")) (by decide) (by decide))))
  obtain ⟨fs, hr, hrun, hended, hW, hsame⟩ := X13.leave (v := none) (fun _ => rfl)
  refine ⟨_, _, pre0 _ ?_, hrun, hended, _, _, rfl, ?_, ⟨_, rfl⟩, hW, hsame.mono (by decide) (by decide)⟩
  · show Steps p.tables e below (s₁.setTop (mkF m 0 #[.val (.ref o0)] [])) _
    refine XS.aloadN X0.here hx rfl (hb hby dCL_0) rfl rfl ?_
    show Steps p.tables e below (s₁.setTop (mkF m 1 #[.val (.ref o0)] [(.ref o0)])) _
    refine XS.iconst X0.here hx rfl (hb hby dCL_1) ?_
    show Steps p.tables e below (s₁.setTop (mkF m 2 #[.val (.ref o0)] [(.int (0 : Int32)), (.ref o0)])) _
    refine st1 _ ?_
    show Steps p.tables e below (T1.setTop (mkF m 5 #[.val (.ref o0)] [])) _
    refine XS.aloadN X1.here hx rfl (hb hby dCL_5) rfl rfl ?_
    show Steps p.tables e below (T1.setTop (mkF m 6 #[.val (.ref o0)] [(.ref o0)])) _
    refine XS.aconstNull X1.here hx rfl (hb hby dCL_6) ?_
    show Steps p.tables e below (T1.setTop (mkF m 7 #[.val (.ref o0)] [.null, (.ref o0)])) _
    refine st4 _ ?_
    show Steps p.tables e below (T4.setTop (mkF m 10 #[.val (.ref o0)] [])) _
    refine XS.aloadN X4.here hx rfl (hb hby dCL_10) rfl rfl ?_
    show Steps p.tables e below (T4.setTop (mkF m 11 #[.val (.ref o0)] [(.ref o0)])) _
    refine XS.aconstNull X4.here hx rfl (hb hby dCL_11) ?_
    show Steps p.tables e below (T4.setTop (mkF m 12 #[.val (.ref o0)] [.null, (.ref o0)])) _
    refine st7 _ ?_
    show Steps p.tables e below (T7.setTop (mkF m 15 #[.val (.ref o0)] [])) _
    refine XS.aloadN X7.here hx rfl (hb hby dCL_15) rfl rfl ?_
    show Steps p.tables e below (T7.setTop (mkF m 16 #[.val (.ref o0)] [(.ref o0)])) _
    refine XS.aconstNull X7.here hx rfl (hb hby dCL_16) ?_
    show Steps p.tables e below (T7.setTop (mkF m 17 #[.val (.ref o0)] [.null, (.ref o0)])) _
    refine st10 _ ?_
    show Steps p.tables e below (T10.setTop (mkF m 20 #[.val (.ref o0)] [])) _
    refine XS.aloadN X10.here hx rfl (hb hby dCL_20) rfl rfl ?_
    show Steps p.tables e below (T10.setTop (mkF m 21 #[.val (.ref o0)] [(.ref o0)])) _
    refine XS.aconstNull X10.here hx rfl (hb hby dCL_21) ?_
    show Steps p.tables e below (T10.setTop (mkF m 22 #[.val (.ref o0)] [.null, (.ref o0)])) _
    refine st13 _ ?_
    show Steps p.tables e below (T13.setTop (mkF m 25 #[.val (.ref o0)] [])) _
    exact X13.returnOut hx Bd.returns (hb hby dCL_25) hr
  · show QCL Z o0 h0 n0 _ T13.heap _
    rw [e13]
    exact ⟨rfl, N13, K13, f14, f15, f16, f17, f18, Fw13⟩
theorem dG0_0 : decode prog_73_method_2_code 0 = .ok (.aload_n 0, 1) := by decide +kernel
theorem dG0_1 : decode prog_73_method_2_code 1 = .ok (.getfield 7, 3) := by decide +kernel
theorem dG0_4 : decode prog_73_method_2_code 4 = .ok (.ifCond .ne 7, 3) := by decide +kernel
theorem dG0_7 : decode prog_73_method_2_code 7 = .ok (.aconst_null, 1) := by decide +kernel
theorem dG0_8 : decode prog_73_method_2_code 8 = .ok (.goto 7, 3) := by decide +kernel
theorem dG0_15 : decode prog_73_method_2_code 15 = .ok (.areturn, 1) := by decide +kernel
theorem ef_G0 (m : MethodId) (o0 : Addr) : entryFrame m #[(.ref o0)] 1 = mkF m 0 #[.val (.ref o0)] [] := by first | (simp [entryFrame, mkF, argsToLocals, Value.category]; done) | rfl
def QG0  (h0 : Heap) (n0 : Nat) (v : Option Value) (h : Heap) (L : List Loc) : Prop := v = some .null ∧ Fr n0 L ∧ h = h0
set_option maxRecDepth 65536 in
set_option maxHeartbeats 40000000 in
theorem rmG0 (l : Launch) (Z : State) (a0 : Array Value) (hw : ∀ d ∈ tables_1, d.before a0 Z = true) (ws : List Jvm.Cond) (o0 : Addr) (h0 : Heap) (n0 : Nat) (Z0 : n0 ≤ h0.size) (Fs : Fld Z h0 o0 "com/example/trusted_cut/trustedcut/program/Selections" "size" "I" (.int (0 : Int32))) :
    MetFree l (⟨"com/example/trusted_cut/trustedcut/program/Selections", "goals", "()Ljava/util/List;"⟩ : MethodName) (head1 (Jvm.Cond.code (⟨"com/example/trusted_cut/trustedcut/program/Selections", "goals", "()Ljava/util/List;"⟩ : MethodName) prog_73_method_2_code 1 (some (.object "java/util/List")) :: ws) ({ frames := 0, cells := 0, slots := 0, locals := 0 } : Room)) (fun a U => a = #[(.ref o0)] ∧ Z.Warmed39 U.vm ∧ U.heap = h0) (fun _ _ _ _ _ => True) (fun _ U o U' => ∃ v L, o = .returned v ∧ QG0 h0 n0 v U'.heap L ∧ FrameEnd U o U' L ({ frames := 0, cells := 0, slots := 0, locals := 0 } : Room).cells ({ frames := 0, cells := 0, slots := 0, locals := 0 } : Room).slots) := by
  refine MetFree.of_bodySF (plainFor_of_name pn_0) hisR ?_
  intro p e s m args below meth c s₁ Bd hml0 hP hK
  obtain ⟨rfl, hZ, hh⟩ := hP
  have hx := Bd.exec
  have hby := Bd.bytes
  have hml : c.maxLocals = 1 := hml0
  have hown : s.vm.findClass "com/example/trusted_cut/trustedcut/program/Selections" = some m.cls := findClass_of_methodNamed Bd.named
  have hnm := (name_of_methodNamed Bd.named Bd.method).1
  have X0 : Stand p l e ({ frames := 0, cells := 0, slots := 0, locals := 0 } : Room) s m #[(.ref o0)] below meth c s₁ [] 0 0 := Stand.of_body Bd
  have e0 : s₁.heap = h0 := by rw [← hh, Bd.state]; rfl
  have N0 := Fr.nil n0
  have pre0 : ∀ t, Steps p.tables e below (s₁.setTop (mkF m 0 #[.val (.ref o0)] [])) t → Steps p.tables e below (s₁.setTop (entryFrame m #[(.ref o0)] 1)) t := fun t k => castTop (ef_G0 m o0) k
  obtain ⟨T1, X1, e1, st1⟩ := getF X0 hx hZ hown (host := "") (Or.inl (hw _ (List.mem_of_getElem? (i := 86) rfl))) Via.refl e0 Fs (g := (mkF m 1 #[.val (.ref o0)] [(.ref o0)])) rfl rfl (hb hby dG0_1)
  obtain ⟨fs, hr, hrun, hended, hW, hsame⟩ := X1.leave (v := some .null) (fun h => by rw [Bd.returns] at h; cases h)
  refine ⟨_, _, pre0 _ ?_, hrun, hended, _, _, rfl, ?_, ⟨_, rfl⟩, hW, hsame.mono (by decide) (by decide)⟩
  · show Steps p.tables e below (s₁.setTop (mkF m 0 #[.val (.ref o0)] [])) _
    refine XS.aloadN X0.here hx rfl (hb hby dG0_0) rfl rfl ?_
    show Steps p.tables e below (s₁.setTop (mkF m 1 #[.val (.ref o0)] [(.ref o0)])) _
    refine st1 _ ?_
    show Steps p.tables e below (T1.setTop (mkF m 4 #[.val (.ref o0)] [(.int (0 : Int32))])) _
    refine XS.ifNo X1.here hx rfl (hb hby dG0_4) rfl ((if0 _ _).trans (teq (show (0 : Int32) = (0 : Int32) from (by decide))).2) ?_
    show Steps p.tables e below (T1.setTop (mkF m 7 #[.val (.ref o0)] [])) _
    refine XS.aconstNull X1.here hx rfl (hb hby dG0_7) ?_
    show Steps p.tables e below (T1.setTop (mkF m 8 #[.val (.ref o0)] [.null])) _
    refine XS.goto X1.here hx rfl (pc0 := 8) (pc' := 15) rfl (hb hby dG0_8) (by decide) (by decide) ?_
    show Steps p.tables e below (T1.setTop (mkF m 15 #[.val (.ref o0)] [.null])) _
    exact retOut X1 hx (i := .areturn) Bd.returns rfl (Or.inr (Or.inr (Or.inr (Or.inr ⟨rfl, rfl, rfl⟩)))) (hb hby dG0_15) hr
  · show QG0 h0 n0 _ T1.heap _
    rw [e1]
    exact ⟨rfl, N0, rfl⟩
theorem dG1_0 : decode prog_73_method_2_code 0 = .ok (.aload_n 0, 1) := by decide +kernel
theorem dG1_1 : decode prog_73_method_2_code 1 = .ok (.getfield 7, 3) := by decide +kernel
theorem dG1_4 : decode prog_73_method_2_code 4 = .ok (.ifCond .ne 7, 3) := by decide +kernel
theorem dG1_11 : decode prog_73_method_2_code 11 = .ok (.aload_n 0, 1) := by decide +kernel
theorem dG1_12 : decode prog_73_method_2_code 12 = .ok (.getfield 13, 3) := by decide +kernel
theorem dG1_15 : decode prog_73_method_2_code 15 = .ok (.areturn, 1) := by decide +kernel
theorem ef_G1 (m : MethodId) (o0 : Addr) : entryFrame m #[(.ref o0)] 1 = mkF m 0 #[.val (.ref o0)] [] := by first | (simp [entryFrame, mkF, argsToLocals, Value.category]; done) | rfl
def QG1 (g : Addr) (h0 : Heap) (n0 : Nat) (v : Option Value) (h : Heap) (L : List Loc) : Prop := v = some (.ref g) ∧ Fr n0 L ∧ h = h0
set_option maxRecDepth 65536 in
set_option maxHeartbeats 40000000 in
theorem rmG1 (l : Launch) (Z : State) (a0 : Array Value) (hw : ∀ d ∈ tables_1, d.before a0 Z = true) (ws : List Jvm.Cond) (o0 g : Addr) (h0 : Heap) (n0 : Nat) (Z0 : n0 ≤ h0.size) (Fs : Fld Z h0 o0 "com/example/trusted_cut/trustedcut/program/Selections" "size" "I" (.int (1 : Int32))) (Fg : Fld Z h0 o0 "com/example/trusted_cut/trustedcut/program/Selections" "firstGoals" "Ljava/util/List;" (.ref g)) :
    MetFree l (⟨"com/example/trusted_cut/trustedcut/program/Selections", "goals", "()Ljava/util/List;"⟩ : MethodName) (head1 (Jvm.Cond.code (⟨"com/example/trusted_cut/trustedcut/program/Selections", "goals", "()Ljava/util/List;"⟩ : MethodName) prog_73_method_2_code 1 (some (.object "java/util/List")) :: ws) ({ frames := 0, cells := 0, slots := 0, locals := 0 } : Room)) (fun a U => a = #[(.ref o0)] ∧ Z.Warmed39 U.vm ∧ U.heap = h0) (fun _ _ _ _ _ => True) (fun _ U o U' => ∃ v L, o = .returned v ∧ QG1 g h0 n0 v U'.heap L ∧ FrameEnd U o U' L ({ frames := 0, cells := 0, slots := 0, locals := 0 } : Room).cells ({ frames := 0, cells := 0, slots := 0, locals := 0 } : Room).slots) := by
  refine MetFree.of_bodySF (plainFor_of_name pn_0) hisR ?_
  intro p e s m args below meth c s₁ Bd hml0 hP hK
  obtain ⟨rfl, hZ, hh⟩ := hP
  have hx := Bd.exec
  have hby := Bd.bytes
  have hml : c.maxLocals = 1 := hml0
  have hown : s.vm.findClass "com/example/trusted_cut/trustedcut/program/Selections" = some m.cls := findClass_of_methodNamed Bd.named
  have hnm := (name_of_methodNamed Bd.named Bd.method).1
  have X0 : Stand p l e ({ frames := 0, cells := 0, slots := 0, locals := 0 } : Room) s m #[(.ref o0)] below meth c s₁ [] 0 0 := Stand.of_body Bd
  have e0 : s₁.heap = h0 := by rw [← hh, Bd.state]; rfl
  have N0 := Fr.nil n0
  have pre0 : ∀ t, Steps p.tables e below (s₁.setTop (mkF m 0 #[.val (.ref o0)] [])) t → Steps p.tables e below (s₁.setTop (entryFrame m #[(.ref o0)] 1)) t := fun t k => castTop (ef_G1 m o0) k
  obtain ⟨T1, X1, e1, st1⟩ := getF X0 hx hZ hown (host := "") (Or.inl (hw _ (List.mem_of_getElem? (i := 86) rfl))) Via.refl e0 Fs (g := (mkF m 1 #[.val (.ref o0)] [(.ref o0)])) rfl rfl (hb hby dG1_1)
  obtain ⟨T2, X2, e2, st2⟩ := getF X1 hx hZ hown (host := "") (Or.inl (hw _ (List.mem_of_getElem? (i := 90) rfl))) Via.refl e1 Fg (g := (mkF m 12 #[.val (.ref o0)] [(.ref o0)])) rfl rfl (hb hby dG1_12)
  obtain ⟨fs, hr, hrun, hended, hW, hsame⟩ := X2.leave (v := some (.ref g)) (fun h => by rw [Bd.returns] at h; cases h)
  refine ⟨_, _, pre0 _ ?_, hrun, hended, _, _, rfl, ?_, ⟨_, rfl⟩, hW, hsame.mono (by decide) (by decide)⟩
  · show Steps p.tables e below (s₁.setTop (mkF m 0 #[.val (.ref o0)] [])) _
    refine XS.aloadN X0.here hx rfl (hb hby dG1_0) rfl rfl ?_
    show Steps p.tables e below (s₁.setTop (mkF m 1 #[.val (.ref o0)] [(.ref o0)])) _
    refine st1 _ ?_
    show Steps p.tables e below (T1.setTop (mkF m 4 #[.val (.ref o0)] [(.int (1 : Int32))])) _
    refine XS.ifYes X1.here hx rfl (pc0 := 4) (pc' := 11) rfl (hb hby dG1_4) rfl ((if0 _ _).trans (feq (show ¬ ((1 : Int32) = (0 : Int32)) from (by decide))).2) (by decide) (by decide) ?_
    show Steps p.tables e below (T1.setTop (mkF m 11 #[.val (.ref o0)] [])) _
    refine XS.aloadN X1.here hx rfl (hb hby dG1_11) rfl rfl ?_
    show Steps p.tables e below (T1.setTop (mkF m 12 #[.val (.ref o0)] [(.ref o0)])) _
    refine st2 _ ?_
    show Steps p.tables e below (T2.setTop (mkF m 15 #[.val (.ref o0)] [(.ref g)])) _
    exact retOut X2 hx (i := .areturn) Bd.returns rfl (Or.inr (Or.inr (Or.inr (Or.inr ⟨rfl, rfl, rfl⟩)))) (hb hby dG1_15) hr
  · show QG1 g h0 n0 _ T2.heap _
    rw [e2]
    exact ⟨rfl, N0, rfl⟩
theorem dMO_0 : decode prog_73_method_3_code 0 = .ok (.aload_n 0, 1) := by decide +kernel
theorem dMO_1 : decode prog_73_method_3_code 1 = .ok (.getfield 17, 3) := by decide +kernel
theorem dMO_4 : decode prog_73_method_3_code 4 = .ok (.areturn, 1) := by decide +kernel
theorem ef_MO (m : MethodId) (o0 : Addr) : entryFrame m #[(.ref o0)] 1 = mkF m 0 #[.val (.ref o0)] [] := by first | (simp [entryFrame, mkF, argsToLocals, Value.category]; done) | rfl
def QMO  (h0 : Heap) (n0 : Nat) (v : Option Value) (h : Heap) (L : List Loc) : Prop := v = some .null ∧ Fr n0 L ∧ h = h0
set_option maxRecDepth 65536 in
set_option maxHeartbeats 40000000 in
theorem rmMO (l : Launch) (Z : State) (a0 : Array Value) (hw : ∀ d ∈ tables_1, d.before a0 Z = true) (ws : List Jvm.Cond) (o0 : Addr) (h0 : Heap) (n0 : Nat) (Z0 : n0 ≤ h0.size) (Fs : Fld Z h0 o0 "com/example/trusted_cut/trustedcut/program/Selections" "more" "Lcom/example/trusted_cut/trustedcut/program/Choice;" .null) :
    MetFree l (⟨"com/example/trusted_cut/trustedcut/program/Selections", "more", "()Lcom/example/trusted_cut/trustedcut/program/Choice;"⟩ : MethodName) (head1 (Jvm.Cond.code (⟨"com/example/trusted_cut/trustedcut/program/Selections", "more", "()Lcom/example/trusted_cut/trustedcut/program/Choice;"⟩ : MethodName) prog_73_method_3_code 1 (some (.object "com/example/trusted_cut/trustedcut/program/Choice")) :: ws) ({ frames := 0, cells := 0, slots := 0, locals := 0 } : Room)) (fun a U => a = #[(.ref o0)] ∧ Z.Warmed39 U.vm ∧ U.heap = h0) (fun _ _ _ _ _ => True) (fun _ U o U' => ∃ v L, o = .returned v ∧ QMO h0 n0 v U'.heap L ∧ FrameEnd U o U' L ({ frames := 0, cells := 0, slots := 0, locals := 0 } : Room).cells ({ frames := 0, cells := 0, slots := 0, locals := 0 } : Room).slots) := by
  refine MetFree.of_bodySF (plainFor_of_name pn_0) hisR ?_
  intro p e s m args below meth c s₁ Bd hml0 hP hK
  obtain ⟨rfl, hZ, hh⟩ := hP
  have hx := Bd.exec
  have hby := Bd.bytes
  have hml : c.maxLocals = 1 := hml0
  have hown : s.vm.findClass "com/example/trusted_cut/trustedcut/program/Selections" = some m.cls := findClass_of_methodNamed Bd.named
  have hnm := (name_of_methodNamed Bd.named Bd.method).1
  have X0 : Stand p l e ({ frames := 0, cells := 0, slots := 0, locals := 0 } : Room) s m #[(.ref o0)] below meth c s₁ [] 0 0 := Stand.of_body Bd
  have e0 : s₁.heap = h0 := by rw [← hh, Bd.state]; rfl
  have N0 := Fr.nil n0
  have pre0 : ∀ t, Steps p.tables e below (s₁.setTop (mkF m 0 #[.val (.ref o0)] [])) t → Steps p.tables e below (s₁.setTop (entryFrame m #[(.ref o0)] 1)) t := fun t k => castTop (ef_MO m o0) k
  obtain ⟨T1, X1, e1, st1⟩ := getF X0 hx hZ hown (host := "") (Or.inl (hw _ (List.mem_of_getElem? (i := 92) rfl))) Via.refl e0 Fs (g := (mkF m 1 #[.val (.ref o0)] [(.ref o0)])) rfl rfl (hb hby dMO_1)
  obtain ⟨fs, hr, hrun, hended, hW, hsame⟩ := X1.leave (v := some .null) (fun h => by rw [Bd.returns] at h; cases h)
  refine ⟨_, _, pre0 _ ?_, hrun, hended, _, _, rfl, ?_, ⟨_, rfl⟩, hW, hsame.mono (by decide) (by decide)⟩
  · show Steps p.tables e below (s₁.setTop (mkF m 0 #[.val (.ref o0)] [])) _
    refine XS.aloadN X0.here hx rfl (hb hby dMO_0) rfl rfl ?_
    show Steps p.tables e below (s₁.setTop (mkF m 1 #[.val (.ref o0)] [(.ref o0)])) _
    refine st1 _ ?_
    show Steps p.tables e below (T1.setTop (mkF m 4 #[.val (.ref o0)] [.null])) _
    exact retOut X1 hx (i := .areturn) Bd.returns rfl (Or.inr (Or.inr (Or.inr (Or.inr ⟨rfl, rfl, rfl⟩)))) (hb hby dMO_4) hr
  · show QMO h0 n0 _ T1.heap _
    rw [e1]
    exact ⟨rfl, N0, rfl⟩
theorem dEF_0 : decode prog_73_method_8_code 0 = .ok (.aload_n 0, 1) := by decide +kernel
theorem dEF_1 : decode prog_73_method_8_code 1 = .ok (.getfield 21, 3) := by decide +kernel
theorem dEF_4 : decode prog_73_method_8_code 4 = .ok (.ifnull 11, 3) := by decide +kernel
theorem dEF_15 : decode prog_73_method_8_code 15 = .ok (.return_, 1) := by decide +kernel
theorem ef_EF (m : MethodId) (o0 : Addr) (o1 : Addr) : entryFrame m #[(.ref o0), (.ref o1)] 2 = mkF m 0 #[.val (.ref o0), .val (.ref o1)] [] := by first | (simp [entryFrame, mkF, argsToLocals, Value.category]; done) | rfl
def QEF  (h0 : Heap) (n0 : Nat) (v : Option Value) (h : Heap) (L : List Loc) : Prop := v = none ∧ Fr n0 L ∧ h = h0
set_option maxRecDepth 65536 in
set_option maxHeartbeats 40000000 in
theorem rmEF (l : Launch) (Z : State) (a0 : Array Value) (hw : ∀ d ∈ tables_1, d.before a0 Z = true) (ws : List Jvm.Cond) (o0 o1 : Addr) (h0 : Heap) (n0 : Nat) (Z0 : n0 ≤ h0.size) (Fs : Fld Z h0 o0 "com/example/trusted_cut/trustedcut/program/Selections" "firstUnifier" "Lcom/example/trusted_cut/trustedcut/program/Unifier;" .null) :
    MetFree l (⟨"com/example/trusted_cut/trustedcut/program/Selections", "enterFirst", "(Lcom/example/trusted_cut/trustedcut/program/Bindings;)V"⟩ : MethodName) (head1 (Jvm.Cond.code (⟨"com/example/trusted_cut/trustedcut/program/Selections", "enterFirst", "(Lcom/example/trusted_cut/trustedcut/program/Bindings;)V"⟩ : MethodName) prog_73_method_8_code 2 none :: ws) ({ frames := 0, cells := 0, slots := 0, locals := 0 } : Room)) (fun a U => a = #[(.ref o0), (.ref o1)] ∧ Z.Warmed39 U.vm ∧ U.heap = h0) (fun _ _ _ _ _ => True) (fun _ U o U' => ∃ v L, o = .returned v ∧ QEF h0 n0 v U'.heap L ∧ FrameEnd U o U' L ({ frames := 0, cells := 0, slots := 0, locals := 0 } : Room).cells ({ frames := 0, cells := 0, slots := 0, locals := 0 } : Room).slots) := by
  refine MetFree.of_bodySF (plainFor_of_name pn_0) hisR ?_
  intro p e s m args below meth c s₁ Bd hml0 hP hK
  obtain ⟨rfl, hZ, hh⟩ := hP
  have hx := Bd.exec
  have hby := Bd.bytes
  have hml : c.maxLocals = 2 := hml0
  have hown : s.vm.findClass "com/example/trusted_cut/trustedcut/program/Selections" = some m.cls := findClass_of_methodNamed Bd.named
  have hnm := (name_of_methodNamed Bd.named Bd.method).1
  have X0 : Stand p l e ({ frames := 0, cells := 0, slots := 0, locals := 0 } : Room) s m #[(.ref o0), (.ref o1)] below meth c s₁ [] 0 0 := Stand.of_body Bd
  have e0 : s₁.heap = h0 := by rw [← hh, Bd.state]; rfl
  have N0 := Fr.nil n0
  have pre0 : ∀ t, Steps p.tables e below (s₁.setTop (mkF m 0 #[.val (.ref o0), .val (.ref o1)] [])) t → Steps p.tables e below (s₁.setTop (entryFrame m #[(.ref o0), (.ref o1)] 2)) t := fun t k => castTop (ef_EF m o0 o1) k
  obtain ⟨T1, X1, e1, st1⟩ := getF X0 hx hZ hown (host := "") (Or.inl (hw _ (List.mem_of_getElem? (i := 88) rfl))) Via.refl e0 Fs (g := (mkF m 1 #[.val (.ref o0), .val (.ref o1)] [(.ref o0)])) rfl rfl (hb hby dEF_1)
  obtain ⟨fs, hr, hrun, hended, hW, hsame⟩ := X1.leave (v := none) (fun _ => rfl)
  refine ⟨_, _, pre0 _ ?_, hrun, hended, _, _, rfl, ?_, ⟨_, rfl⟩, hW, hsame.mono (by decide) (by decide)⟩
  · show Steps p.tables e below (s₁.setTop (mkF m 0 #[.val (.ref o0), .val (.ref o1)] [])) _
    refine XS.aloadN X0.here hx rfl (hb hby dEF_0) rfl rfl ?_
    show Steps p.tables e below (s₁.setTop (mkF m 1 #[.val (.ref o0), .val (.ref o1)] [(.ref o0)])) _
    refine st1 _ ?_
    show Steps p.tables e below (T1.setTop (mkF m 4 #[.val (.ref o0), .val (.ref o1)] [.null])) _
    refine XS.ifnullYes X1.here hx rfl (pc0 := 4) (pc' := 15) rfl (hb hby dEF_4) rfl (by decide) (by decide) ?_
    show Steps p.tables e below (T1.setTop (mkF m 15 #[.val (.ref o0), .val (.ref o1)] [])) _
    exact X1.returnOut hx Bd.returns (hb hby dEF_15) hr
  · show QEF h0 n0 _ T1.heap _
    rw [e1]
    exact ⟨rfl, N0, rfl⟩
theorem dMK_0 : decode prog_31_method_5_code 0 = .ok (.aload_n 0, 1) := by decide +kernel
theorem dMK_1 : decode prog_31_method_5_code 1 = .ok (.getfield 110, 3) := by decide +kernel
theorem dMK_4 : decode prog_31_method_5_code 4 = .ok (.ireturn, 1) := by decide +kernel
theorem ef_MK (m : MethodId) (o0 : Addr) : entryFrame m #[(.ref o0)] 1 = mkF m 0 #[.val (.ref o0)] [] := by first | (simp [entryFrame, mkF, argsToLocals, Value.category]; done) | rfl
def QMK  (h0 : Heap) (n0 : Nat) (v : Option Value) (h : Heap) (L : List Loc) : Prop := v = some (.int (0 : Int32)) ∧ Fr n0 L ∧ h = h0
set_option maxRecDepth 65536 in
set_option maxHeartbeats 40000000 in
theorem rmMK (l : Launch) (Z : State) (a0 : Array Value) (hw : ∀ d ∈ tables_1, d.before a0 Z = true) (ws : List Jvm.Cond) (o0 : Addr) (h0 : Heap) (n0 : Nat) (Z0 : n0 ≤ h0.size) (Fs : Fld Z h0 o0 "com/example/trusted_cut/trustedcut/program/Bindings" "trailed" "I" (.int (0 : Int32))) :
    MetFree l (⟨"com/example/trusted_cut/trustedcut/program/Bindings", "mark", "()I"⟩ : MethodName) (head1 (Jvm.Cond.code (⟨"com/example/trusted_cut/trustedcut/program/Bindings", "mark", "()I"⟩ : MethodName) prog_31_method_5_code 1 (some .int) :: ws) ({ frames := 0, cells := 0, slots := 0, locals := 0 } : Room)) (fun a U => a = #[(.ref o0)] ∧ Z.Warmed39 U.vm ∧ U.heap = h0) (fun _ _ _ _ _ => True) (fun _ U o U' => ∃ v L, o = .returned v ∧ QMK h0 n0 v U'.heap L ∧ FrameEnd U o U' L ({ frames := 0, cells := 0, slots := 0, locals := 0 } : Room).cells ({ frames := 0, cells := 0, slots := 0, locals := 0 } : Room).slots) := by
  refine MetFree.of_bodySF (plainFor_of_name pn_4) hisR ?_
  intro p e s m args below meth c s₁ Bd hml0 hP hK
  obtain ⟨rfl, hZ, hh⟩ := hP
  have hx := Bd.exec
  have hby := Bd.bytes
  have hml : c.maxLocals = 1 := hml0
  have hown : s.vm.findClass "com/example/trusted_cut/trustedcut/program/Bindings" = some m.cls := findClass_of_methodNamed Bd.named
  have hnm := (name_of_methodNamed Bd.named Bd.method).1
  have X0 : Stand p l e ({ frames := 0, cells := 0, slots := 0, locals := 0 } : Room) s m #[(.ref o0)] below meth c s₁ [] 0 0 := Stand.of_body Bd
  have e0 : s₁.heap = h0 := by rw [← hh, Bd.state]; rfl
  have N0 := Fr.nil n0
  have pre0 : ∀ t, Steps p.tables e below (s₁.setTop (mkF m 0 #[.val (.ref o0)] [])) t → Steps p.tables e below (s₁.setTop (entryFrame m #[(.ref o0)] 1)) t := fun t k => castTop (ef_MK m o0) k
  obtain ⟨T1, X1, e1, st1⟩ := getF X0 hx hZ hown (host := "") (Or.inl (hw _ (List.mem_of_getElem? (i := 116) rfl))) Via.refl e0 Fs (g := (mkF m 1 #[.val (.ref o0)] [(.ref o0)])) rfl rfl (hb hby dMK_1)
  obtain ⟨fs, hr, hrun, hended, hW, hsame⟩ := X1.leave (v := some (.int (0 : Int32))) (fun h => by rw [Bd.returns] at h; cases h)
  refine ⟨_, _, pre0 _ ?_, hrun, hended, _, _, rfl, ?_, ⟨_, rfl⟩, hW, hsame.mono (by decide) (by decide)⟩
  · show Steps p.tables e below (s₁.setTop (mkF m 0 #[.val (.ref o0)] [])) _
    refine XS.aloadN X0.here hx rfl (hb hby dMK_0) rfl rfl ?_
    show Steps p.tables e below (s₁.setTop (mkF m 1 #[.val (.ref o0)] [(.ref o0)])) _
    refine st1 _ ?_
    show Steps p.tables e below (T1.setTop (mkF m 4 #[.val (.ref o0)] [(.int (0 : Int32))])) _
    exact retI X1 hx Bd.returns (hb hby dMK_4) hr
  · show QMK h0 n0 _ T1.heap _
    rw [e1]
    exact ⟨rfl, N0, rfl⟩
theorem pn_9 : plainName "com/example/trusted_cut/trustedcut/program/SelectionsClearPinLaw" = true := by first | (simp [plainName, overriddenIn]; done) | decide +kernel
theorem pd_5 : parseMethodDescriptor "(I[Lcom/example/trusted_cut/trustedcut/term/Term;)V" = some ⟨[.int, (.array (.object "com/example/trusted_cut/trustedcut/term/Term"))], none⟩ := by decide +kernel
theorem pd_6 : parseMethodDescriptor "()Ljava/util/List;" = some ⟨[], some (.object "java/util/List")⟩ := by decide +kernel
theorem pd_7 : parseMethodDescriptor "()Lcom/example/trusted_cut/trustedcut/program/Choice;" = some ⟨[], some (.object "com/example/trusted_cut/trustedcut/program/Choice")⟩ := by decide +kernel
theorem pd_8 : parseMethodDescriptor "(Lcom/example/trusted_cut/trustedcut/program/Bindings;)V" = some ⟨[(.object "com/example/trusted_cut/trustedcut/program/Bindings")], none⟩ := by decide +kernel
theorem pd_9 : parseMethodDescriptor "()I" = some ⟨[], some .int⟩ := by decide +kernel
theorem pd_10 : parseMethodDescriptor "(Lcom/example/trusted_cut/trustedcut/program/Unifier;Ljava/util/List;)V" = some ⟨[(.object "com/example/trusted_cut/trustedcut/program/Unifier"), (.object "java/util/List")], none⟩ := by decide +kernel
theorem ef_0 (m : MethodId) (p0 : Int32) : entryFrame m #[(.int p0)] maxLocals = mkF m 0 #[.val (.int p0), .unset, .unset, .unset, .unset, .unset, .unset, .unset, .unset, .unset, .unset] [] := by first | (simp [entryFrame, mkF, argsToLocals, Value.category, maxLocals]; done) | rfl
def Q0 (h0 : Heap) (n0 : Nat) (v : Option Value) (h : Heap) (L : List Loc) : Prop := v = some (.int 1) ∧ Fr n0 L
set_option maxRecDepth 65536 in
set_option maxHeartbeats 40000000 in
theorem rm0 (l : Launch) (Z : State) (a0 : Array Value) (hw : ∀ d ∈ tables_1, d.before a0 Z = true) (ws : List Jvm.Cond) (p0 : Int32) (bN bD : Addr) (h0 : Heap) (n0 : Nat) (Z0 : n0 ≤ h0.size) (SN : Sta Z h0 "com/example/trusted_cut/trustedcut/program/Unifier" "NONE" "[Lcom/example/trusted_cut/trustedcut/term/Term;" (.ref bN)) (SD : Sta Z h0 "java/util/ArrayList" "DEFAULTCAPACITY_EMPTY_ELEMENTDATA" "[Ljava/lang/Object;" (.ref bD)) :
    MetFree l x (head1 (Jvm.Cond.code x code maxLocals ret :: ws) room_1) (fun a U => a = #[(.int p0)] ∧ Z.Warmed39 U.vm ∧ U.heap = h0) (fun _ _ _ _ _ => True) (fun _ U o U' => ∃ v L, o = .returned v ∧ Q0 h0 n0 v U'.heap L ∧ FrameEnd U o U' L 11 123) := by
  refine MetFree.of_bodySF (plainFor_of_name pn_9) hisR ?_
  intro p e s m args below meth c s₁ Bd hml0 hP hK
  obtain ⟨rfl, hZ, hh⟩ := hP
  have hx := Bd.exec
  have hby := Bd.bytes
  have hml : c.maxLocals = 11 := hml0
  have hown : s.vm.findClass "com/example/trusted_cut/trustedcut/program/SelectionsClearPinLaw" = some m.cls := findClass_of_methodNamed Bd.named
  have hnm := (name_of_methodNamed Bd.named Bd.method).1
  have X0 : Stand p l e room_1 s m #[(.int p0)] below meth c s₁ [] 0 0 := Stand.of_body Bd
  have e0 : s₁.heap = h0 := by rw [← hh, Bd.state]; rfl
  have N0 := Fr.nil n0
  have pre0 : ∀ t, Steps p.tables e below (s₁.setTop (mkF m 0 #[.val (.int p0), .unset, .unset, .unset, .unset, .unset, .unset, .unset, .unset, .unset, .unset] [])) t → Steps p.tables e below (s₁.setTop (entryFrame m #[(.int p0)] maxLocals)) t := fun t k => castTop (ef_0 m p0) k
  have pre1 : ∀ t, Steps p.tables e below (s₁.setTop (mkF m 4 #[.val (.int p0), .val (.int (p0 &&& (3 : Int32))), .unset, .unset, .unset, .unset, .unset, .unset, .unset, .unset, .unset] [])) t → Steps p.tables e below (s₁.setTop (entryFrame m #[(.int p0)] maxLocals)) t := fun t kt => pre0 t (by
      show Steps p.tables e below (s₁.setTop (mkF m 0 #[.val (.int p0), .unset, .unset, .unset, .unset, .unset, .unset, .unset, .unset, .unset, .unset] [])) _
      refine XS.iloadN X0.here hx rfl (hb hby at_0) rfl ?_
      show Steps p.tables e below (s₁.setTop (mkF m 1 #[.val (.int p0), .unset, .unset, .unset, .unset, .unset, .unset, .unset, .unset, .unset, .unset] [(.int p0)])) _
      refine XS.iconst X0.here hx rfl (hb hby at_1) ?_
      show Steps p.tables e below (s₁.setTop (mkF m 2 #[.val (.int p0), .unset, .unset, .unset, .unset, .unset, .unset, .unset, .unset, .unset, .unset] [(.int (3 : Int32)), (.int p0)])) _
      refine XS.iand X0.here hx rfl (hb hby at_2) rfl ?_
      show Steps p.tables e below (s₁.setTop (mkF m 3 #[.val (.int p0), .unset, .unset, .unset, .unset, .unset, .unset, .unset, .unset, .unset, .unset] [(.int (p0 &&& (3 : Int32)))])) _
      refine XS.istoreN X0.here hx rfl (hb hby at_3) rfl (l' := #[.val (.int p0), .val (.int (p0 &&& (3 : Int32))), .unset, .unset, .unset, .unset, .unset, .unset, .unset, .unset, .unset]) rfl ?_
      exact kt)
  obtain ⟨n, hn⟩ : ∃ z : Int32, z = (p0 &&& (3 : Int32)) := ⟨_, rfl⟩
  rw [← hn] at pre1
  obtain ⟨T2, h2, X2, e2, E2, A2, D2, -, st2⟩ := newO X0 hx hZ hown (hw _ (List.mem_of_getElem? (i := 0) rfl)) (hw _ (List.mem_of_getElem? (i := 1) rfl)) (hw _ (List.mem_of_getElem? (i := 2) rfl)) e0 (g := (mkF m 4 #[.val (.int p0), .val (.int n), .unset, .unset, .unset, .unset, .unset, .unset, .unset, .unset, .unset] [])) rfl (hb hby at_4) (by decide) (by decide)
  obtain ⟨b2, g2⟩ : ∃ z, z = h0.size := ⟨_, rfl⟩
  rw [← g2] at A2 D2 st2
  have g_b2 : n0 ≤ b2 := Nat.le_trans Z0 (Nat.le_of_eq g2.symm)
  have sz_b2 : h0.size ≤ b2 := Nat.le_trans (Keep.refl h0 []).1 (Nat.le_of_eq g2.symm)
  have K2 : Keep h0 h2 [] := Keep.ext (Keep.refl h0 []) E2
  have Z2 : n0 ≤ h2.size := Nat.le_trans Z0 K2.1
  have F_size_b2 : Fld Z h2 b2 "com/example/trusted_cut/trustedcut/program/Selections" "size" "I" (.int (0 : Int32)) := D2 (Or.inl (hw _ (List.mem_of_getElem? (i := 87) rfl))) (ty := .int) (by decide)
  have F_firstUnifier_b2 : Fld Z h2 b2 "com/example/trusted_cut/trustedcut/program/Selections" "firstUnifier" "Lcom/example/trusted_cut/trustedcut/program/Unifier;" .null := D2 (Or.inl (hw _ (List.mem_of_getElem? (i := 89) rfl))) (ty := (.object "com/example/trusted_cut/trustedcut/program/Unifier")) (by decide)
  have F_firstGoals_b2 : Fld Z h2 b2 "com/example/trusted_cut/trustedcut/program/Selections" "firstGoals" "Ljava/util/List;" .null := D2 (Or.inl (hw _ (List.mem_of_getElem? (i := 91) rfl))) (ty := (.object "java/util/List")) (by decide)
  have F_more_b2 : Fld Z h2 b2 "com/example/trusted_cut/trustedcut/program/Selections" "more" "Lcom/example/trusted_cut/trustedcut/program/Choice;" .null := D2 (Or.inl (hw _ (List.mem_of_getElem? (i := 93) rfl))) (ty := (.object "com/example/trusted_cut/trustedcut/program/Choice")) (by decide)
  have F_last_b2 : Fld Z h2 b2 "com/example/trusted_cut/trustedcut/program/Selections" "last" "Lcom/example/trusted_cut/trustedcut/program/Choice;" .null := D2 (Or.inl (hw _ (List.mem_of_getElem? (i := 95) rfl))) (ty := (.object "com/example/trusted_cut/trustedcut/program/Choice")) (by decide)
  obtain ⟨_, _, ⟨T3, L3, k3, n3⟩, -, X3, ⟨Lc3, hQ3, l3, y3, z3⟩, st3⟩ := X2.specialBack hx (y := (⟨"com/example/trusted_cut/trustedcut/program/Selections", "<init>", "()V"⟩ : MethodName)) rfl hown (mvT hZ (hw _ (List.mem_of_getElem? (i := 3) rfl))) (mvT hZ (hw _ (List.mem_of_getElem? (i := 4) rfl))) (mvT hZ (hw _ (List.mem_of_getElem? (i := 5) rfl))) (by decide) (backOf (W := 1) (rm1 l Z a0 hw [] b2 h2 n0 Z2 ) hZ (hw _ (List.mem_of_getElem? (i := 5) rfl)) (hw _ (List.mem_of_getElem? (i := 2) rfl)) (by decide) (by decide)) (g := (mkF m 8 #[.val (.int p0), .val (.int n), .unset, .unset, .unset, .unset, .unset, .unset, .unset, .unset, .unset] [(.ref b2), (.ref b2)])) rfl (by rw [hml]; rfl) (Steps.refl _) (a := b2) (argsL := []) (rest := [(.ref b2)]) (lenOf pd_0 rfl) rfl (by show 2 * 0 + _ ≤ _; exact Nat.le_of_eq rfl) (hb hby at_8) (fun _ _ => ⟨rfl, e2, (by decide : 1 + 0 ≤ _), (by decide : 5 + 0 ≤ _)⟩)
  dsimp only [Pt.U, Pt.locs, Pt.cells, Pt.slots] at X3 l3 y3 z3 st3 hQ3
  subst l3 y3 z3
  obtain ⟨rfl, N3q, e3⟩ := hQ3
  have N3 := Fr.app N0 N3q
  obtain ⟨T4, h4, X4, e4, E4, A4, D4, -, st4⟩ := newO X3 hx hZ hown (hw _ (List.mem_of_getElem? (i := 9) rfl)) (hw _ (List.mem_of_getElem? (i := 10) rfl)) (hw _ (List.mem_of_getElem? (i := 11) rfl)) e3 (g := (mkF m 12 #[.val (.int p0), .val (.int n), .val (.ref b2), .unset, .unset, .unset, .unset, .unset, .unset, .unset, .unset] [])) rfl (hb hby at_12) (by decide) (by decide)
  obtain ⟨b4, g4⟩ : ∃ z, z = h2.size := ⟨_, rfl⟩
  rw [← g4] at A4 D4 st4
  have g_b4 : n0 ≤ b4 := Nat.le_trans Z2 (Nat.le_of_eq g4.symm)
  have sz_b4 : h0.size ≤ b4 := Nat.le_trans K2.1 (Nat.le_of_eq g4.symm)
  have ne_b2_b4 : b2 ≠ b4 := Nat.ne_of_lt (Nat.lt_of_lt_of_le A2.lt (Nat.le_of_eq g4.symm))
  have K4 : Keep h0 h4 [] := Keep.ext K2 E4
  have Z4 : n0 ≤ h4.size := Nat.le_trans Z0 K4.1
  have F_elsewhere_b4 : Fld Z h4 b4 "com/example/trusted_cut/trustedcut/program/Bindings" "elsewhere" "Ljava/util/Map;" .null := D4 (Or.inr (hw _ (List.mem_of_getElem? (i := 33) rfl))) (ty := (.object "java/util/Map")) (by decide)
  have F_bagEnds_b4 : Fld Z h4 b4 "com/example/trusted_cut/trustedcut/program/Bindings" "bagEnds" "Ljava/util/Map;" .null := D4 (Or.inr (hw _ (List.mem_of_getElem? (i := 35) rfl))) (ty := (.object "java/util/Map")) (by decide)
  have F_trail_b4 : Fld Z h4 b4 "com/example/trusted_cut/trustedcut/program/Bindings" "trail" "[Lcom/example/trusted_cut/trustedcut/term/Var;" .null := D4 (Or.inl (hw _ (List.mem_of_getElem? (i := 39) rfl))) (ty := (.array (.object "com/example/trusted_cut/trustedcut/term/Var"))) (by decide)
  have F_compactedAt_b4 : Fld Z h4 b4 "com/example/trusted_cut/trustedcut/program/Bindings" "compactedAt" "I" (.int (0 : Int32)) := D4 (Or.inl (hw _ (List.mem_of_getElem? (i := 41) rfl))) (ty := .int) (by decide)
  have F_trailed_b4 : Fld Z h4 b4 "com/example/trusted_cut/trustedcut/program/Bindings" "trailed" "I" (.int (0 : Int32)) := D4 (Or.inl (hw _ (List.mem_of_getElem? (i := 117) rfl))) (ty := .int) (by decide)
  obtain ⟨_, _, ⟨T5, L5, k5, n5⟩, -, X5, ⟨Lc5, hQ5, l5, y5, z5⟩, st5⟩ := X4.specialBack hx (y := (⟨"com/example/trusted_cut/trustedcut/program/Bindings", "<init>", "()V"⟩ : MethodName)) rfl hown (mvT hZ (hw _ (List.mem_of_getElem? (i := 12) rfl))) (mvT hZ (hw _ (List.mem_of_getElem? (i := 13) rfl))) (mvT hZ (hw _ (List.mem_of_getElem? (i := 14) rfl))) (by decide) (backOf (W := 1) (rm3 l Z a0 hw [] b4 h4 n0 Z4 A4 F_elsewhere_b4 F_bagEnds_b4 F_trail_b4 F_compactedAt_b4 F_trailed_b4 g_b4) hZ (hw _ (List.mem_of_getElem? (i := 14) rfl)) (hw _ (List.mem_of_getElem? (i := 11) rfl)) (by decide) (by decide)) (g := (mkF m 16 #[.val (.int p0), .val (.int n), .val (.ref b2), .unset, .unset, .unset, .unset, .unset, .unset, .unset, .unset] [(.ref b4), (.ref b4)])) rfl (by rw [hml]; rfl) (Steps.refl _) (a := b4) (argsL := []) (rest := [(.ref b4)]) (lenOf pd_0 rfl) rfl (by show 2 * 0 + _ ≤ _; exact Nat.le_of_eq rfl) (hb hby at_16) (fun _ _ => ⟨rfl, e4, (by decide : 2 + 3 ≤ _), (by decide : 12 + 80 ≤ _)⟩)
  dsimp only [Pt.U, Pt.locs, Pt.cells, Pt.slots] at X5 l5 y5 z5 st5 hQ5
  subst l5 y5 z5
  obtain ⟨rfl, N5q, K5, E5o, F5_0⟩ := hQ5
  have f6 := ((SN.ext E2).ext E4)
  have sk7 := own_sta_keep1 f6 A4 K5
  have f8 := ((SD.ext E2).ext E4)
  have sk9 := own_sta_keep1 f8 A4 K5
  have KK5 : Keep h0 T5.heap [] := Keep.trans K4 K5 (own_side1 (Or.inr sz_b4))
  have Z5 : n0 ≤ T5.heap.size := Nat.le_trans Z0 KK5.1
  have N5 := Fr.app N3 N5q
  have f10 := ((A2.ext E4).keep K5)
  obtain ⟨T11, h11, X11, e11, E11, A11, D11, -, st11⟩ := newO X5 hx hZ hown (hw _ (List.mem_of_getElem? (i := 42) rfl)) (hw _ (List.mem_of_getElem? (i := 43) rfl)) (hw _ (List.mem_of_getElem? (i := 44) rfl)) rfl (g := (mkF m 20 #[.val (.int p0), .val (.int n), .val (.ref b2), .val (.ref b4), .unset, .unset, .unset, .unset, .unset, .unset, .unset] [])) rfl (hb hby at_20) (by decide) (by decide)
  obtain ⟨b11, g11⟩ : ∃ z, z = T5.heap.size := ⟨_, rfl⟩
  rw [← g11] at A11 D11 st11
  have g_b11 : n0 ≤ b11 := Nat.le_trans Z5 (Nat.le_of_eq g11.symm)
  have sz_b11 : h0.size ≤ b11 := Nat.le_trans KK5.1 (Nat.le_of_eq g11.symm)
  have ne_b2_b11 : b2 ≠ b11 := Nat.ne_of_lt (Nat.lt_of_lt_of_le f10.lt (Nat.le_of_eq g11.symm))
  have ne_b4_b11 : b4 ≠ b11 := Nat.ne_of_lt (Nat.lt_of_lt_of_le E5o.lt (Nat.le_of_eq g11.symm))
  have K11 : Keep h0 h11 [] := Keep.ext KK5 E11
  have Z11 : n0 ≤ h11.size := Nat.le_trans Z0 K11.1
  have F_modCount_b11 : Fld Z h11 b11 "java/util/AbstractList" "modCount" "I" (.int (0 : Int32)) := D11 (Or.inl (hw _ (List.mem_of_getElem? (i := 62) rfl))) (ty := .int) (by decide)
  have F_elementData_b11 : Fld Z h11 b11 "java/util/ArrayList" "elementData" "[Ljava/lang/Object;" .null := D11 (Or.inl (hw _ (List.mem_of_getElem? (i := 65) rfl))) (ty := (.array (.object "java/lang/Object"))) (by decide)
  have f13 := (sk9.ext E11)
  obtain ⟨_, _, ⟨T12, L12, k12, n12⟩, -, X12, ⟨Lc12, hQ12, l12, y12, z12⟩, st12⟩ := X11.specialBack hx (y := (⟨"java/util/ArrayList", "<init>", "()V"⟩ : MethodName)) rfl hown (mvT hZ (hw _ (List.mem_of_getElem? (i := 45) rfl))) (mvT hZ (hw _ (List.mem_of_getElem? (i := 46) rfl))) (mvT hZ (hw _ (List.mem_of_getElem? (i := 47) rfl))) (by decide) (backOf (W := 1) (rm6 l Z a0 hw [] b11 bD h11 n0 Z11 f13 A11 F_modCount_b11 F_elementData_b11 g_b11) hZ (hw _ (List.mem_of_getElem? (i := 47) rfl)) (hw _ (List.mem_of_getElem? (i := 44) rfl)) (by decide) (by decide)) (g := (mkF m 24 #[.val (.int p0), .val (.int n), .val (.ref b2), .val (.ref b4), .unset, .unset, .unset, .unset, .unset, .unset, .unset] [(.ref b11), (.ref b11)])) rfl (by rw [hml]; rfl) (Steps.refl _) (a := b11) (argsL := []) (rest := [(.ref b11)]) (lenOf pd_0 rfl) rfl (by show 2 * 0 + _ ≤ _; exact Nat.le_of_eq rfl) (hb hby at_24) (fun _ _ => ⟨rfl, e11, (by decide : 6 + 0 ≤ _), (by decide : 95 + 0 ≤ _)⟩)
  dsimp only [Pt.U, Pt.locs, Pt.cells, Pt.slots] at X12 l12 y12 z12 st12 hQ12
  subst l12 y12 z12
  obtain ⟨rfl, N12q, K12, E12o⟩ := hQ12
  have f14 := (sk7.ext E11)
  have sk15 := own_sta_keep1 f14 A11 K12
  have sk16 := own_sta_keep1 f13 A11 K12
  have KK12 : Keep h0 T12.heap [] := Keep.trans K11 K12 (own_side1 (Or.inr sz_b11))
  have Z12 : n0 ≤ T12.heap.size := Nat.le_trans Z0 KK12.1
  have N12 := Fr.app N5 N12q
  have f17 := ((f10.ext E11).keep K12)
  have f18 := ((E5o.ext E11).keep K12)
  obtain ⟨T19, h19, X19, e19, E19, A19, D19, -, st19⟩ := newO X12 hx hZ hown (hw _ (List.mem_of_getElem? (i := 42) rfl)) (hw _ (List.mem_of_getElem? (i := 43) rfl)) (hw _ (List.mem_of_getElem? (i := 44) rfl)) rfl (g := (mkF m 29 #[.val (.int p0), .val (.int n), .val (.ref b2), .val (.ref b4), .val (.ref b11), .unset, .unset, .unset, .unset, .unset, .unset] [])) rfl (hb hby at_29) (by decide) (by decide)
  obtain ⟨b19, g19⟩ : ∃ z, z = T12.heap.size := ⟨_, rfl⟩
  rw [← g19] at A19 D19 st19
  have g_b19 : n0 ≤ b19 := Nat.le_trans Z12 (Nat.le_of_eq g19.symm)
  have sz_b19 : h0.size ≤ b19 := Nat.le_trans KK12.1 (Nat.le_of_eq g19.symm)
  have ne_b2_b19 : b2 ≠ b19 := Nat.ne_of_lt (Nat.lt_of_lt_of_le f17.lt (Nat.le_of_eq g19.symm))
  have ne_b4_b19 : b4 ≠ b19 := Nat.ne_of_lt (Nat.lt_of_lt_of_le f18.lt (Nat.le_of_eq g19.symm))
  have ne_b11_b19 : b11 ≠ b19 := Nat.ne_of_lt (Nat.lt_of_lt_of_le E12o.lt (Nat.le_of_eq g19.symm))
  have K19 : Keep h0 h19 [] := Keep.ext KK12 E19
  have Z19 : n0 ≤ h19.size := Nat.le_trans Z0 K19.1
  have F_modCount_b19 : Fld Z h19 b19 "java/util/AbstractList" "modCount" "I" (.int (0 : Int32)) := D19 (Or.inl (hw _ (List.mem_of_getElem? (i := 62) rfl))) (ty := .int) (by decide)
  have F_elementData_b19 : Fld Z h19 b19 "java/util/ArrayList" "elementData" "[Ljava/lang/Object;" .null := D19 (Or.inl (hw _ (List.mem_of_getElem? (i := 65) rfl))) (ty := (.array (.object "java/lang/Object"))) (by decide)
  have f21 := (sk16.ext E19)
  obtain ⟨_, _, ⟨T20, L20, k20, n20⟩, -, X20, ⟨Lc20, hQ20, l20, y20, z20⟩, st20⟩ := X19.specialBack hx (y := (⟨"java/util/ArrayList", "<init>", "()V"⟩ : MethodName)) rfl hown (mvT hZ (hw _ (List.mem_of_getElem? (i := 45) rfl))) (mvT hZ (hw _ (List.mem_of_getElem? (i := 46) rfl))) (mvT hZ (hw _ (List.mem_of_getElem? (i := 47) rfl))) (by decide) (backOf (W := 1) (rm6 l Z a0 hw [] b19 bD h19 n0 Z19 f21 A19 F_modCount_b19 F_elementData_b19 g_b19) hZ (hw _ (List.mem_of_getElem? (i := 47) rfl)) (hw _ (List.mem_of_getElem? (i := 44) rfl)) (by decide) (by decide)) (g := (mkF m 33 #[.val (.int p0), .val (.int n), .val (.ref b2), .val (.ref b4), .val (.ref b11), .unset, .unset, .unset, .unset, .unset, .unset] [(.ref b19), (.ref b19)])) rfl (by rw [hml]; rfl) (Steps.refl _) (a := b19) (argsL := []) (rest := [(.ref b19)]) (lenOf pd_0 rfl) rfl (by show 2 * 0 + _ ≤ _; exact Nat.le_of_eq rfl) (hb hby at_33) (fun _ _ => ⟨rfl, e19, (by decide : 7 + 0 ≤ _), (by decide : 98 + 0 ≤ _)⟩)
  dsimp only [Pt.U, Pt.locs, Pt.cells, Pt.slots] at X20 l20 y20 z20 st20 hQ20
  subst l20 y20 z20
  obtain ⟨rfl, N20q, K20, E20o⟩ := hQ20
  have f22 := (sk15.ext E19)
  have sk23 := own_sta_keep1 f22 A19 K20
  have sk24 := own_sta_keep1 f21 A19 K20
  have KK20 : Keep h0 T20.heap [] := Keep.trans K19 K20 (own_side1 (Or.inr sz_b19))
  have Z20 : n0 ≤ T20.heap.size := Nat.le_trans Z0 KK20.1
  have N20 := Fr.app N12 N20q
  have f25 := ((f17.ext E19).keep K20)
  have f26 := ((f18.ext E19).keep K20)
  have f27 := ((E12o.ext E19).keep K20)
  obtain ⟨T28, h28, X28, e28, E28, A28, D28, -, st28⟩ := newO X20 hx hZ hown (hw _ (List.mem_of_getElem? (i := 66) rfl)) (hw _ (List.mem_of_getElem? (i := 67) rfl)) (hw _ (List.mem_of_getElem? (i := 68) rfl)) rfl (g := (mkF m 38 #[.val (.int p0), .val (.int n), .val (.ref b2), .val (.ref b4), .val (.ref b11), .val (.ref b19), .unset, .unset, .unset, .unset, .unset] [])) rfl (hb hby at_38) (by decide) (by decide)
  obtain ⟨b28, g28⟩ : ∃ z, z = T20.heap.size := ⟨_, rfl⟩
  rw [← g28] at A28 D28 st28
  have g_b28 : n0 ≤ b28 := Nat.le_trans Z20 (Nat.le_of_eq g28.symm)
  have sz_b28 : h0.size ≤ b28 := Nat.le_trans KK20.1 (Nat.le_of_eq g28.symm)
  have ne_b2_b28 : b2 ≠ b28 := Nat.ne_of_lt (Nat.lt_of_lt_of_le f25.lt (Nat.le_of_eq g28.symm))
  have ne_b4_b28 : b4 ≠ b28 := Nat.ne_of_lt (Nat.lt_of_lt_of_le f26.lt (Nat.le_of_eq g28.symm))
  have ne_b11_b28 : b11 ≠ b28 := Nat.ne_of_lt (Nat.lt_of_lt_of_le f27.lt (Nat.le_of_eq g28.symm))
  have ne_b19_b28 : b19 ≠ b28 := Nat.ne_of_lt (Nat.lt_of_lt_of_le E20o.lt (Nat.le_of_eq g28.symm))
  have K28 : Keep h0 h28 [] := Keep.ext KK20 E28
  have Z28 : n0 ≤ h28.size := Nat.le_trans Z0 K28.1
  have F_marked_b28 : Fld Z h28 b28 "com/example/trusted_cut/trustedcut/program/Unifier" "marked" "Lcom/example/trusted_cut/trustedcut/program/Unifier;" .null := D28 (Or.inl (hw _ (List.mem_of_getElem? (i := 76) rfl))) (ty := (.object "com/example/trusted_cut/trustedcut/program/Unifier")) (by decide)
  have F_mark_b28 : Fld Z h28 b28 "com/example/trusted_cut/trustedcut/program/Unifier" "mark" "I" (.int (0 : Int32)) := D28 (Or.inl (hw _ (List.mem_of_getElem? (i := 78) rfl))) (ty := .int) (by decide)
  have F_made_b28 : Fld Z h28 b28 "com/example/trusted_cut/trustedcut/program/Unifier" "made" "[Lcom/example/trusted_cut/trustedcut/term/Term;" .null := D28 (Or.inr (hw _ (List.mem_of_getElem? (i := 80) rfl))) (ty := (.array (.object "com/example/trusted_cut/trustedcut/term/Term"))) (by decide)
  have f29 := (sk23.ext E28)
  obtain ⟨T30, X30, e30, st30⟩ := getS2 X28 hx hZ hown (host := "") (Or.inl (hw _ (List.mem_of_getElem? (i := 69) rfl))) Via.refl e28 f29 (g := (mkF m 43 #[.val (.int p0), .val (.int n), .val (.ref b2), .val (.ref b4), .val (.ref b11), .val (.ref b19), .unset, .unset, .unset, .unset, .unset] [(.int (-1 : Int32)), (.ref b28), (.ref b28)])) rfl (hb hby at_43)
  obtain ⟨_, _, ⟨T31, L31, k31, n31⟩, -, X31, ⟨Lc31, hQ31, l31, y31, z31⟩, st31⟩ := X30.specialBack hx (y := (⟨"com/example/trusted_cut/trustedcut/program/Unifier", "<init>", "(I[Lcom/example/trusted_cut/trustedcut/term/Term;)V"⟩ : MethodName)) rfl hown (mvT hZ (hw _ (List.mem_of_getElem? (i := 71) rfl))) (mvT hZ (hw _ (List.mem_of_getElem? (i := 72) rfl))) (mvT hZ (hw _ (List.mem_of_getElem? (i := 73) rfl))) (by decide) (backOf (W := 1) (rm9 l Z a0 hw [] b28 (-1 : Int32) bN h28 n0 Z28 A28 F_marked_b28 F_mark_b28 F_made_b28 g_b28) hZ (hw _ (List.mem_of_getElem? (i := 73) rfl)) (hw _ (List.mem_of_getElem? (i := 68) rfl)) (by decide) (by decide)) (g := (mkF m 46 #[.val (.int p0), .val (.int n), .val (.ref b2), .val (.ref b4), .val (.ref b11), .val (.ref b19), .unset, .unset, .unset, .unset, .unset] [(.ref bN), (.int (-1 : Int32)), (.ref b28), (.ref b28)])) rfl (by rw [hml]; rfl) (Steps.refl _) (a := b28) (argsL := [(.int (-1 : Int32)), (.ref bN)]) (rest := [(.ref b28)]) (lenOf pd_5 rfl) rfl (by show 2 * 0 + _ ≤ _; exact Nat.le_of_eq rfl) (hb hby at_46) (fun _ _ => ⟨rfl, e30, (by decide : 8 + 0 ≤ _), (by decide : 101 + 0 ≤ _)⟩)
  dsimp only [Pt.U, Pt.locs, Pt.cells, Pt.slots] at X31 l31 y31 z31 st31 hQ31
  subst l31 y31 z31
  obtain ⟨rfl, N31q, K31, E31o, F31_0⟩ := hQ31
  have sk32 := own_sta_keep1 f29 A28 K31
  have f33 := (sk24.ext E28)
  have sk34 := own_sta_keep1 f33 A28 K31
  have KK31 : Keep h0 T31.heap [] := Keep.trans K28 K31 (own_side1 (Or.inr sz_b28))
  have Z31 : n0 ≤ T31.heap.size := Nat.le_trans Z0 KK31.1
  have N31 := Fr.app N20 N31q
  have f35 := ((f25.ext E28).keep K31)
  have f36 := ((f26.ext E28).keep K31)
  have f37 := ((f27.ext E28).keep K31)
  have f38 := ((E20o.ext E28).keep K31)
  obtain ⟨T39, h39, X39, e39, E39, A39, D39, -, st39⟩ := newO X31 hx hZ hown (hw _ (List.mem_of_getElem? (i := 66) rfl)) (hw _ (List.mem_of_getElem? (i := 67) rfl)) (hw _ (List.mem_of_getElem? (i := 68) rfl)) rfl (g := (mkF m 51 #[.val (.int p0), .val (.int n), .val (.ref b2), .val (.ref b4), .val (.ref b11), .val (.ref b19), .val (.ref b28), .unset, .unset, .unset, .unset] [])) rfl (hb hby at_51) (by decide) (by decide)
  obtain ⟨b39, g39⟩ : ∃ z, z = T31.heap.size := ⟨_, rfl⟩
  rw [← g39] at A39 D39 st39
  have g_b39 : n0 ≤ b39 := Nat.le_trans Z31 (Nat.le_of_eq g39.symm)
  have sz_b39 : h0.size ≤ b39 := Nat.le_trans KK31.1 (Nat.le_of_eq g39.symm)
  have ne_b2_b39 : b2 ≠ b39 := Nat.ne_of_lt (Nat.lt_of_lt_of_le f35.lt (Nat.le_of_eq g39.symm))
  have ne_b4_b39 : b4 ≠ b39 := Nat.ne_of_lt (Nat.lt_of_lt_of_le f36.lt (Nat.le_of_eq g39.symm))
  have ne_b11_b39 : b11 ≠ b39 := Nat.ne_of_lt (Nat.lt_of_lt_of_le f37.lt (Nat.le_of_eq g39.symm))
  have ne_b19_b39 : b19 ≠ b39 := Nat.ne_of_lt (Nat.lt_of_lt_of_le f38.lt (Nat.le_of_eq g39.symm))
  have ne_b28_b39 : b28 ≠ b39 := Nat.ne_of_lt (Nat.lt_of_lt_of_le E31o.lt (Nat.le_of_eq g39.symm))
  have K39 : Keep h0 h39 [] := Keep.ext KK31 E39
  have Z39 : n0 ≤ h39.size := Nat.le_trans Z0 K39.1
  have F_marked_b39 : Fld Z h39 b39 "com/example/trusted_cut/trustedcut/program/Unifier" "marked" "Lcom/example/trusted_cut/trustedcut/program/Unifier;" .null := D39 (Or.inl (hw _ (List.mem_of_getElem? (i := 76) rfl))) (ty := (.object "com/example/trusted_cut/trustedcut/program/Unifier")) (by decide)
  have F_mark_b39 : Fld Z h39 b39 "com/example/trusted_cut/trustedcut/program/Unifier" "mark" "I" (.int (0 : Int32)) := D39 (Or.inl (hw _ (List.mem_of_getElem? (i := 78) rfl))) (ty := .int) (by decide)
  have F_made_b39 : Fld Z h39 b39 "com/example/trusted_cut/trustedcut/program/Unifier" "made" "[Lcom/example/trusted_cut/trustedcut/term/Term;" .null := D39 (Or.inr (hw _ (List.mem_of_getElem? (i := 80) rfl))) (ty := (.array (.object "com/example/trusted_cut/trustedcut/term/Term"))) (by decide)
  have f40 := (sk32.ext E39)
  obtain ⟨T41, X41, e41, st41⟩ := getS2 X39 hx hZ hown (host := "") (Or.inl (hw _ (List.mem_of_getElem? (i := 69) rfl))) Via.refl e39 f40 (g := (mkF m 56 #[.val (.int p0), .val (.int n), .val (.ref b2), .val (.ref b4), .val (.ref b11), .val (.ref b19), .val (.ref b28), .unset, .unset, .unset, .unset] [(.int (0 : Int32)), (.ref b39), (.ref b39)])) rfl (hb hby at_56)
  obtain ⟨_, _, ⟨T42, L42, k42, n42⟩, -, X42, ⟨Lc42, hQ42, l42, y42, z42⟩, st42⟩ := X41.specialBack hx (y := (⟨"com/example/trusted_cut/trustedcut/program/Unifier", "<init>", "(I[Lcom/example/trusted_cut/trustedcut/term/Term;)V"⟩ : MethodName)) rfl hown (mvT hZ (hw _ (List.mem_of_getElem? (i := 71) rfl))) (mvT hZ (hw _ (List.mem_of_getElem? (i := 72) rfl))) (mvT hZ (hw _ (List.mem_of_getElem? (i := 73) rfl))) (by decide) (backOf (W := 1) (rm9 l Z a0 hw [] b39 (0 : Int32) bN h39 n0 Z39 A39 F_marked_b39 F_mark_b39 F_made_b39 g_b39) hZ (hw _ (List.mem_of_getElem? (i := 73) rfl)) (hw _ (List.mem_of_getElem? (i := 68) rfl)) (by decide) (by decide)) (g := (mkF m 59 #[.val (.int p0), .val (.int n), .val (.ref b2), .val (.ref b4), .val (.ref b11), .val (.ref b19), .val (.ref b28), .unset, .unset, .unset, .unset] [(.ref bN), (.int (0 : Int32)), (.ref b39), (.ref b39)])) rfl (by rw [hml]; rfl) (Steps.refl _) (a := b39) (argsL := [(.int (0 : Int32)), (.ref bN)]) (rest := [(.ref b39)]) (lenOf pd_5 rfl) rfl (by show 2 * 0 + _ ≤ _; exact Nat.le_of_eq rfl) (hb hby at_59) (fun _ _ => ⟨rfl, e41, (by decide : 9 + 0 ≤ _), (by decide : 104 + 0 ≤ _)⟩)
  dsimp only [Pt.U, Pt.locs, Pt.cells, Pt.slots] at X42 l42 y42 z42 st42 hQ42
  subst l42 y42 z42
  obtain ⟨rfl, N42q, K42, E42o, F42_0⟩ := hQ42
  have sk43 := own_sta_keep1 f40 A39 K42
  have f44 := (sk34.ext E39)
  have sk45 := own_sta_keep1 f44 A39 K42
  have KK42 : Keep h0 T42.heap [] := Keep.trans K39 K42 (own_side1 (Or.inr sz_b39))
  have Z42 : n0 ≤ T42.heap.size := Nat.le_trans Z0 KK42.1
  have N42 := Fr.app N31 N42q
  have pre46 : ∀ t, Steps p.tables e below (T42.setTop (mkF m 66 #[.val (.int p0), .val (.int n), .val (.ref b2), .val (.ref b4), .val (.ref b11), .val (.ref b19), .val (.ref b28), .val (.ref b39), .unset, .unset, .unset] [(.int (1 : Int32)), (.int n)])) t → Steps p.tables e below (s₁.setTop (entryFrame m #[(.int p0)] maxLocals)) t := fun t kt => pre1 t (by
      show Steps p.tables e below (s₁.setTop (mkF m 4 #[.val (.int p0), .val (.int n), .unset, .unset, .unset, .unset, .unset, .unset, .unset, .unset, .unset] [])) _
      refine st2 _ ?_
      show Steps p.tables e below (T2.setTop (mkF m 7 #[.val (.int p0), .val (.int n), .unset, .unset, .unset, .unset, .unset, .unset, .unset, .unset, .unset] [(.ref b2)])) _
      refine XS.dup X2.here hx rfl (hb hby at_7) rfl rfl ?_
      show Steps p.tables e below (T2.setTop (mkF m 8 #[.val (.int p0), .val (.int n), .unset, .unset, .unset, .unset, .unset, .unset, .unset, .unset, .unset] [(.ref b2), (.ref b2)])) _
      refine st3.trans ?_
      show Steps p.tables e below (T3.setTop (mkF m 11 #[.val (.int p0), .val (.int n), .unset, .unset, .unset, .unset, .unset, .unset, .unset, .unset, .unset] [(.ref b2)])) _
      refine XS.astoreN X3.here hx rfl (hb hby at_11) rfl rfl (l' := #[.val (.int p0), .val (.int n), .val (.ref b2), .unset, .unset, .unset, .unset, .unset, .unset, .unset, .unset]) rfl ?_
      show Steps p.tables e below (T3.setTop (mkF m 12 #[.val (.int p0), .val (.int n), .val (.ref b2), .unset, .unset, .unset, .unset, .unset, .unset, .unset, .unset] [])) _
      refine st4 _ ?_
      show Steps p.tables e below (T4.setTop (mkF m 15 #[.val (.int p0), .val (.int n), .val (.ref b2), .unset, .unset, .unset, .unset, .unset, .unset, .unset, .unset] [(.ref b4)])) _
      refine XS.dup X4.here hx rfl (hb hby at_15) rfl rfl ?_
      show Steps p.tables e below (T4.setTop (mkF m 16 #[.val (.int p0), .val (.int n), .val (.ref b2), .unset, .unset, .unset, .unset, .unset, .unset, .unset, .unset] [(.ref b4), (.ref b4)])) _
      refine st5.trans ?_
      show Steps p.tables e below (T5.setTop (mkF m 19 #[.val (.int p0), .val (.int n), .val (.ref b2), .unset, .unset, .unset, .unset, .unset, .unset, .unset, .unset] [(.ref b4)])) _
      refine XS.astoreN X5.here hx rfl (hb hby at_19) rfl rfl (l' := #[.val (.int p0), .val (.int n), .val (.ref b2), .val (.ref b4), .unset, .unset, .unset, .unset, .unset, .unset, .unset]) rfl ?_
      show Steps p.tables e below (T5.setTop (mkF m 20 #[.val (.int p0), .val (.int n), .val (.ref b2), .val (.ref b4), .unset, .unset, .unset, .unset, .unset, .unset, .unset] [])) _
      refine st11 _ ?_
      show Steps p.tables e below (T11.setTop (mkF m 23 #[.val (.int p0), .val (.int n), .val (.ref b2), .val (.ref b4), .unset, .unset, .unset, .unset, .unset, .unset, .unset] [(.ref b11)])) _
      refine XS.dup X11.here hx rfl (hb hby at_23) rfl rfl ?_
      show Steps p.tables e below (T11.setTop (mkF m 24 #[.val (.int p0), .val (.int n), .val (.ref b2), .val (.ref b4), .unset, .unset, .unset, .unset, .unset, .unset, .unset] [(.ref b11), (.ref b11)])) _
      refine st12.trans ?_
      show Steps p.tables e below (T12.setTop (mkF m 27 #[.val (.int p0), .val (.int n), .val (.ref b2), .val (.ref b4), .unset, .unset, .unset, .unset, .unset, .unset, .unset] [(.ref b11)])) _
      refine XS.astore X12.here hx rfl (hb hby at_27) rfl rfl (l' := #[.val (.int p0), .val (.int n), .val (.ref b2), .val (.ref b4), .val (.ref b11), .unset, .unset, .unset, .unset, .unset, .unset]) rfl ?_
      show Steps p.tables e below (T12.setTop (mkF m 29 #[.val (.int p0), .val (.int n), .val (.ref b2), .val (.ref b4), .val (.ref b11), .unset, .unset, .unset, .unset, .unset, .unset] [])) _
      refine st19 _ ?_
      show Steps p.tables e below (T19.setTop (mkF m 32 #[.val (.int p0), .val (.int n), .val (.ref b2), .val (.ref b4), .val (.ref b11), .unset, .unset, .unset, .unset, .unset, .unset] [(.ref b19)])) _
      refine XS.dup X19.here hx rfl (hb hby at_32) rfl rfl ?_
      show Steps p.tables e below (T19.setTop (mkF m 33 #[.val (.int p0), .val (.int n), .val (.ref b2), .val (.ref b4), .val (.ref b11), .unset, .unset, .unset, .unset, .unset, .unset] [(.ref b19), (.ref b19)])) _
      refine st20.trans ?_
      show Steps p.tables e below (T20.setTop (mkF m 36 #[.val (.int p0), .val (.int n), .val (.ref b2), .val (.ref b4), .val (.ref b11), .unset, .unset, .unset, .unset, .unset, .unset] [(.ref b19)])) _
      refine XS.astore X20.here hx rfl (hb hby at_36) rfl rfl (l' := #[.val (.int p0), .val (.int n), .val (.ref b2), .val (.ref b4), .val (.ref b11), .val (.ref b19), .unset, .unset, .unset, .unset, .unset]) rfl ?_
      show Steps p.tables e below (T20.setTop (mkF m 38 #[.val (.int p0), .val (.int n), .val (.ref b2), .val (.ref b4), .val (.ref b11), .val (.ref b19), .unset, .unset, .unset, .unset, .unset] [])) _
      refine st28 _ ?_
      show Steps p.tables e below (T28.setTop (mkF m 41 #[.val (.int p0), .val (.int n), .val (.ref b2), .val (.ref b4), .val (.ref b11), .val (.ref b19), .unset, .unset, .unset, .unset, .unset] [(.ref b28)])) _
      refine XS.dup X28.here hx rfl (hb hby at_41) rfl rfl ?_
      show Steps p.tables e below (T28.setTop (mkF m 42 #[.val (.int p0), .val (.int n), .val (.ref b2), .val (.ref b4), .val (.ref b11), .val (.ref b19), .unset, .unset, .unset, .unset, .unset] [(.ref b28), (.ref b28)])) _
      refine XS.iconst X28.here hx rfl (hb hby at_42) ?_
      show Steps p.tables e below (T28.setTop (mkF m 43 #[.val (.int p0), .val (.int n), .val (.ref b2), .val (.ref b4), .val (.ref b11), .val (.ref b19), .unset, .unset, .unset, .unset, .unset] [(.int (-1 : Int32)), (.ref b28), (.ref b28)])) _
      refine st30 _ ?_
      show Steps p.tables e below (T30.setTop (mkF m 46 #[.val (.int p0), .val (.int n), .val (.ref b2), .val (.ref b4), .val (.ref b11), .val (.ref b19), .unset, .unset, .unset, .unset, .unset] [(.ref bN), (.int (-1 : Int32)), (.ref b28), (.ref b28)])) _
      refine st31.trans ?_
      show Steps p.tables e below (T31.setTop (mkF m 49 #[.val (.int p0), .val (.int n), .val (.ref b2), .val (.ref b4), .val (.ref b11), .val (.ref b19), .unset, .unset, .unset, .unset, .unset] [(.ref b28)])) _
      refine XS.astore X31.here hx rfl (hb hby at_49) rfl rfl (l' := #[.val (.int p0), .val (.int n), .val (.ref b2), .val (.ref b4), .val (.ref b11), .val (.ref b19), .val (.ref b28), .unset, .unset, .unset, .unset]) rfl ?_
      show Steps p.tables e below (T31.setTop (mkF m 51 #[.val (.int p0), .val (.int n), .val (.ref b2), .val (.ref b4), .val (.ref b11), .val (.ref b19), .val (.ref b28), .unset, .unset, .unset, .unset] [])) _
      refine st39 _ ?_
      show Steps p.tables e below (T39.setTop (mkF m 54 #[.val (.int p0), .val (.int n), .val (.ref b2), .val (.ref b4), .val (.ref b11), .val (.ref b19), .val (.ref b28), .unset, .unset, .unset, .unset] [(.ref b39)])) _
      refine XS.dup X39.here hx rfl (hb hby at_54) rfl rfl ?_
      show Steps p.tables e below (T39.setTop (mkF m 55 #[.val (.int p0), .val (.int n), .val (.ref b2), .val (.ref b4), .val (.ref b11), .val (.ref b19), .val (.ref b28), .unset, .unset, .unset, .unset] [(.ref b39), (.ref b39)])) _
      refine XS.iconst X39.here hx rfl (hb hby at_55) ?_
      show Steps p.tables e below (T39.setTop (mkF m 56 #[.val (.int p0), .val (.int n), .val (.ref b2), .val (.ref b4), .val (.ref b11), .val (.ref b19), .val (.ref b28), .unset, .unset, .unset, .unset] [(.int (0 : Int32)), (.ref b39), (.ref b39)])) _
      refine st41 _ ?_
      show Steps p.tables e below (T41.setTop (mkF m 59 #[.val (.int p0), .val (.int n), .val (.ref b2), .val (.ref b4), .val (.ref b11), .val (.ref b19), .val (.ref b28), .unset, .unset, .unset, .unset] [(.ref bN), (.int (0 : Int32)), (.ref b39), (.ref b39)])) _
      refine st42.trans ?_
      show Steps p.tables e below (T42.setTop (mkF m 62 #[.val (.int p0), .val (.int n), .val (.ref b2), .val (.ref b4), .val (.ref b11), .val (.ref b19), .val (.ref b28), .unset, .unset, .unset, .unset] [(.ref b39)])) _
      refine XS.astore X42.here hx rfl (hb hby at_62) rfl rfl (l' := #[.val (.int p0), .val (.int n), .val (.ref b2), .val (.ref b4), .val (.ref b11), .val (.ref b19), .val (.ref b28), .val (.ref b39), .unset, .unset, .unset]) rfl ?_
      show Steps p.tables e below (T42.setTop (mkF m 64 #[.val (.int p0), .val (.int n), .val (.ref b2), .val (.ref b4), .val (.ref b11), .val (.ref b19), .val (.ref b28), .val (.ref b39), .unset, .unset, .unset] [])) _
      refine XS.iloadN X42.here hx rfl (hb hby at_64) rfl ?_
      show Steps p.tables e below (T42.setTop (mkF m 65 #[.val (.int p0), .val (.int n), .val (.ref b2), .val (.ref b4), .val (.ref b11), .val (.ref b19), .val (.ref b28), .val (.ref b39), .unset, .unset, .unset] [(.int n)])) _
      refine XS.iconst X42.here hx rfl (hb hby at_65) ?_
      exact kt)
  by_cases hc66 : n < (1 : Int32)
  · have f48 := ((f35.ext E39).keep K42)
    have f49 := ((((((((((F_size_b2.ext E4).keep K5 (own_notin1 ne_b2_b4)).ext E11).keep K12 (own_notin1 ne_b2_b11)).ext E19).keep K20 (own_notin1 ne_b2_b19)).ext E28).keep K31 (own_notin1 ne_b2_b28)).ext E39).keep K42 (own_notin1 ne_b2_b39))
    have f50 := ((((((((((F_firstUnifier_b2.ext E4).keep K5 (own_notin1 ne_b2_b4)).ext E11).keep K12 (own_notin1 ne_b2_b11)).ext E19).keep K20 (own_notin1 ne_b2_b19)).ext E28).keep K31 (own_notin1 ne_b2_b28)).ext E39).keep K42 (own_notin1 ne_b2_b39))
    have f51 := ((((((((((F_firstGoals_b2.ext E4).keep K5 (own_notin1 ne_b2_b4)).ext E11).keep K12 (own_notin1 ne_b2_b11)).ext E19).keep K20 (own_notin1 ne_b2_b19)).ext E28).keep K31 (own_notin1 ne_b2_b28)).ext E39).keep K42 (own_notin1 ne_b2_b39))
    have f52 := ((((((((((F_more_b2.ext E4).keep K5 (own_notin1 ne_b2_b4)).ext E11).keep K12 (own_notin1 ne_b2_b11)).ext E19).keep K20 (own_notin1 ne_b2_b19)).ext E28).keep K31 (own_notin1 ne_b2_b28)).ext E39).keep K42 (own_notin1 ne_b2_b39))
    have f53 := ((((((((((F_last_b2.ext E4).keep K5 (own_notin1 ne_b2_b4)).ext E11).keep K12 (own_notin1 ne_b2_b11)).ext E19).keep K20 (own_notin1 ne_b2_b19)).ext E28).keep K31 (own_notin1 ne_b2_b28)).ext E39).keep K42 (own_notin1 ne_b2_b39))
    obtain ⟨cq47, kq47, q47a, q47b, q47c⟩ := isOf hZ rfl f48
    obtain ⟨_, _, ⟨T47, L47, k47, n47⟩, -, X47, ⟨Lc47, hQ47, l47, y47, z47⟩, st47⟩ := X42.virtualBack hx (y := (⟨"com/example/trusted_cut/trustedcut/program/Selections", "clear", "()V"⟩ : MethodName)) (z := (⟨"com/example/trusted_cut/trustedcut/program/Selections", "clear", "()V"⟩ : MethodName)) hown (mvT hZ (hw _ (List.mem_of_getElem? (i := 81) rfl))) (mvT hZ (hw _ (List.mem_of_getElem? (i := 82) rfl))) (notFace_of_selects (args := #[]) (mvT hZ (hw _ (List.mem_of_getElem? (i := 84) rfl)))) (mvT hZ (hw _ (List.mem_of_getElem? (i := 84) rfl))) (mvT hZ (hw _ (List.mem_of_getElem? (i := 83) rfl))) (by decide) (backOf (W := 0) (rmCL l Z a0 hw [] b2 (.int (0 : Int32)) .null .null .null .null T42.heap n0 Z42 f48 f49 f50 f51 f52 f53 g_b2) hZ (hw _ (List.mem_of_getElem? (i := 85) rfl)) (hw _ (List.mem_of_getElem? (i := 2) rfl)) (by decide) (by decide)) q47a q47c (g := (mkF m 104 #[.val (.int p0), .val (.int n), .val (.ref b2), .val (.ref b4), .val (.ref b11), .val (.ref b19), .val (.ref b28), .val (.ref b39), .unset, .unset, .unset] [(.ref b2)])) rfl (by rw [hml]; rfl) (Steps.refl _) (argsL := []) (rest := []) (lenOf pd_0 rfl) rfl (by show 2 * 0 + _ ≤ _; exact Nat.le_of_eq rfl) (hb hby at_104) (fun _ _ => ⟨rfl, rfl, (by decide : 9 + 0 ≤ _), (by decide : 104 + 0 ≤ _)⟩)
    dsimp only [Pt.U, Pt.locs, Pt.cells, Pt.slots] at X47 l47 y47 z47 st47 hQ47
    subst l47 y47 z47
    obtain ⟨rfl, N47q, K47, E47o, F47_0, F47_1, F47_2, F47_3, F47_4⟩ := hQ47
    have KK47 : Keep h0 T47.heap [] := Keep.trans KK42 K47 (own_side1 (Or.inr sz_b2))
    have Z47 : n0 ≤ T47.heap.size := Nat.le_trans Z0 KK47.1
    have N47 := Fr.app N42 N47q
    obtain ⟨cq54, kq54, q54a, q54b, q54c⟩ := isOf hZ rfl E47o
    obtain ⟨_, _, ⟨T54, L54, k54, n54⟩, -, X54, ⟨Lc54, hQ54, l54, y54, z54⟩, st54⟩ := X47.virtualBack hx (y := (⟨"com/example/trusted_cut/trustedcut/program/Selections", "goals", "()Ljava/util/List;"⟩ : MethodName)) (z := (⟨"com/example/trusted_cut/trustedcut/program/Selections", "goals", "()Ljava/util/List;"⟩ : MethodName)) hown (mvT hZ (hw _ (List.mem_of_getElem? (i := 96) rfl))) (mvT hZ (hw _ (List.mem_of_getElem? (i := 97) rfl))) (notFace_of_selects (args := #[]) (mvT hZ (hw _ (List.mem_of_getElem? (i := 99) rfl)))) (mvT hZ (hw _ (List.mem_of_getElem? (i := 99) rfl))) (mvT hZ (hw _ (List.mem_of_getElem? (i := 98) rfl))) (by decide) (backOf (W := 0) (rmG0 l Z a0 hw [] b2 T47.heap n0 Z47 F47_0) hZ (hw _ (List.mem_of_getElem? (i := 100) rfl)) (hw _ (List.mem_of_getElem? (i := 2) rfl)) (by decide) (by decide)) q54a q54c (g := (mkF m 108 #[.val (.int p0), .val (.int n), .val (.ref b2), .val (.ref b4), .val (.ref b11), .val (.ref b19), .val (.ref b28), .val (.ref b39), .unset, .unset, .unset] [(.ref b2)])) rfl (by rw [hml]; rfl) (Steps.refl _) (argsL := []) (rest := []) (lenOf pd_6 rfl) rfl (by show 2 * 0 + _ ≤ _; exact Nat.le_of_eq rfl) (hb hby at_108) (fun _ _ => ⟨rfl, rfl, (by decide : 9 + 0 ≤ _), (by decide : 104 + 0 ≤ _)⟩)
    dsimp only [Pt.U, Pt.locs, Pt.cells, Pt.slots] at X54 l54 y54 z54 st54 hQ54
    subst l54 y54 z54
    obtain ⟨rfl, N54q, e54⟩ := hQ54
    have N54 := Fr.app N47 N54q
    obtain ⟨cq55, kq55, q55a, q55b, q55c⟩ := isOf hZ e54 E47o
    obtain ⟨_, _, ⟨T55, L55, k55, n55⟩, -, X55, ⟨Lc55, hQ55, l55, y55, z55⟩, st55⟩ := X54.virtualBack hx (y := (⟨"com/example/trusted_cut/trustedcut/program/Selections", "more", "()Lcom/example/trusted_cut/trustedcut/program/Choice;"⟩ : MethodName)) (z := (⟨"com/example/trusted_cut/trustedcut/program/Selections", "more", "()Lcom/example/trusted_cut/trustedcut/program/Choice;"⟩ : MethodName)) hown (mvT hZ (hw _ (List.mem_of_getElem? (i := 101) rfl))) (mvT hZ (hw _ (List.mem_of_getElem? (i := 102) rfl))) (notFace_of_selects (args := #[]) (mvT hZ (hw _ (List.mem_of_getElem? (i := 104) rfl)))) (mvT hZ (hw _ (List.mem_of_getElem? (i := 104) rfl))) (mvT hZ (hw _ (List.mem_of_getElem? (i := 103) rfl))) (by decide) (backOf (W := 0) (rmMO l Z a0 hw [] b2 T47.heap n0 Z47 F47_3) hZ (hw _ (List.mem_of_getElem? (i := 105) rfl)) (hw _ (List.mem_of_getElem? (i := 2) rfl)) (by decide) (by decide)) q55a q55c (g := (mkF m 115 #[.val (.int p0), .val (.int n), .val (.ref b2), .val (.ref b4), .val (.ref b11), .val (.ref b19), .val (.ref b28), .val (.ref b39), .unset, .unset, .unset] [(.ref b2)])) rfl (by rw [hml]; rfl) (Steps.refl _) (argsL := []) (rest := []) (lenOf pd_7 rfl) rfl (by show 2 * 0 + _ ≤ _; exact Nat.le_of_eq rfl) (hb hby at_115) (fun _ _ => ⟨rfl, e54, (by decide : 9 + 0 ≤ _), (by decide : 104 + 0 ≤ _)⟩)
    dsimp only [Pt.U, Pt.locs, Pt.cells, Pt.slots] at X55 l55 y55 z55 st55 hQ55
    subst l55 y55 z55
    obtain ⟨rfl, N55q, e55⟩ := hQ55
    have N55 := Fr.app N54 N55q
    obtain ⟨cq56, kq56, q56a, q56b, q56c⟩ := isOf hZ e55 E47o
    obtain ⟨_, _, ⟨T56, L56, k56, n56⟩, -, X56, ⟨Lc56, hQ56, l56, y56, z56⟩, st56⟩ := X55.virtualBack hx (y := (⟨"com/example/trusted_cut/trustedcut/program/Selections", "enterFirst", "(Lcom/example/trusted_cut/trustedcut/program/Bindings;)V"⟩ : MethodName)) (z := (⟨"com/example/trusted_cut/trustedcut/program/Selections", "enterFirst", "(Lcom/example/trusted_cut/trustedcut/program/Bindings;)V"⟩ : MethodName)) hown (mvT hZ (hw _ (List.mem_of_getElem? (i := 106) rfl))) (mvT hZ (hw _ (List.mem_of_getElem? (i := 107) rfl))) (notFace_of_selects (args := #[]) (mvT hZ (hw _ (List.mem_of_getElem? (i := 109) rfl)))) (mvT hZ (hw _ (List.mem_of_getElem? (i := 109) rfl))) (mvT hZ (hw _ (List.mem_of_getElem? (i := 108) rfl))) (by decide) (backOf (W := 0) (rmEF l Z a0 hw [] b2 b4 T47.heap n0 Z47 F47_1) hZ (hw _ (List.mem_of_getElem? (i := 110) rfl)) (hw _ (List.mem_of_getElem? (i := 2) rfl)) (by decide) (by decide)) q56a q56c (g := (mkF m 130 #[.val (.int p0), .val (.int n), .val (.ref b2), .val (.ref b4), .val (.ref b11), .val (.ref b19), .val (.ref b28), .val (.ref b39), .val (.int (1 : Int32)), .unset, .unset] [(.ref b4), (.ref b2)])) rfl (by rw [hml]; rfl) (Steps.refl _) (argsL := [(.ref b4)]) (rest := []) (lenOf pd_8 rfl) rfl (by show 2 * 0 + _ ≤ _; exact Nat.le_of_eq rfl) (hb hby at_130) (fun _ _ => ⟨rfl, e55, (by decide : 9 + 0 ≤ _), (by decide : 104 + 0 ≤ _)⟩)
    dsimp only [Pt.U, Pt.locs, Pt.cells, Pt.slots] at X56 l56 y56 z56 st56 hQ56
    subst l56 y56 z56
    obtain ⟨rfl, N56q, e56⟩ := hQ56
    have N56 := Fr.app N55 N56q
    have f58 := (((((((((F5_0.ext E11).keep K12 (own_notin1 ne_b4_b11)).ext E19).keep K20 (own_notin1 ne_b4_b19)).ext E28).keep K31 (own_notin1 ne_b4_b28)).ext E39).keep K42 (own_notin1 ne_b4_b39)).keep K47 (own_notin1 (Ne.symm ne_b2_b4)))
    have f59 := (((f36.ext E39).keep K42).keep K47)
    obtain ⟨cq57, kq57, q57a, q57b, q57c⟩ := isOf hZ e56 f59
    obtain ⟨_, _, ⟨T57, L57, k57, n57⟩, -, X57, ⟨Lc57, hQ57, l57, y57, z57⟩, st57⟩ := X56.virtualBack hx (y := (⟨"com/example/trusted_cut/trustedcut/program/Bindings", "mark", "()I"⟩ : MethodName)) (z := (⟨"com/example/trusted_cut/trustedcut/program/Bindings", "mark", "()I"⟩ : MethodName)) hown (mvT hZ (hw _ (List.mem_of_getElem? (i := 111) rfl))) (mvT hZ (hw _ (List.mem_of_getElem? (i := 112) rfl))) (notFace_of_selects (args := #[]) (mvT hZ (hw _ (List.mem_of_getElem? (i := 114) rfl)))) (mvT hZ (hw _ (List.mem_of_getElem? (i := 114) rfl))) (mvT hZ (hw _ (List.mem_of_getElem? (i := 113) rfl))) (by decide) (backOf (W := 0) (rmMK l Z a0 hw [] b4 T47.heap n0 Z47 f58) hZ (hw _ (List.mem_of_getElem? (i := 115) rfl)) (hw _ (List.mem_of_getElem? (i := 11) rfl)) (by decide) (by decide)) q57a q57c (g := (mkF m 134 #[.val (.int p0), .val (.int n), .val (.ref b2), .val (.ref b4), .val (.ref b11), .val (.ref b19), .val (.ref b28), .val (.ref b39), .val (.int (1 : Int32)), .unset, .unset] [(.ref b4)])) rfl (by rw [hml]; rfl) (Steps.refl _) (argsL := []) (rest := []) (lenOf pd_9 rfl) rfl (by show 2 * 0 + _ ≤ _; exact Nat.le_of_eq rfl) (hb hby at_134) (fun _ _ => ⟨rfl, e56, (by decide : 9 + 0 ≤ _), (by decide : 104 + 0 ≤ _)⟩)
    dsimp only [Pt.U, Pt.locs, Pt.cells, Pt.slots] at X57 l57 y57 z57 st57 hQ57
    subst l57 y57 z57
    obtain ⟨rfl, N57q, e57⟩ := hQ57
    have N57 := Fr.app N56 N57q
    obtain ⟨cq60, kq60, q60a, q60b, q60c⟩ := isOf hZ e57 E47o
    obtain ⟨_, _, ⟨T60, L60, k60, n60⟩, -, X60, ⟨Lc60, hQ60, l60, y60, z60⟩, st60⟩ := X57.virtualBack hx (y := (⟨"com/example/trusted_cut/trustedcut/program/Selections", "add", "(Lcom/example/trusted_cut/trustedcut/program/Unifier;Ljava/util/List;)V"⟩ : MethodName)) (z := (⟨"com/example/trusted_cut/trustedcut/program/Selections", "add", "(Lcom/example/trusted_cut/trustedcut/program/Unifier;Ljava/util/List;)V"⟩ : MethodName)) hown (mvT hZ (hw _ (List.mem_of_getElem? (i := 118) rfl))) (mvT hZ (hw _ (List.mem_of_getElem? (i := 119) rfl))) (notFace_of_selects (args := #[]) (mvT hZ (hw _ (List.mem_of_getElem? (i := 121) rfl)))) (mvT hZ (hw _ (List.mem_of_getElem? (i := 121) rfl))) (mvT hZ (hw _ (List.mem_of_getElem? (i := 120) rfl))) (by decide) (backOf (W := 0) (rmA0 l Z a0 hw [] b2 b39 b19 T47.heap n0 Z47 E47o F47_0 F47_1 F47_2 F47_3 F47_4 g_b2) hZ (hw _ (List.mem_of_getElem? (i := 122) rfl)) (hw _ (List.mem_of_getElem? (i := 2) rfl)) (by decide) (by decide)) q60a q60c (g := (mkF m 152 #[.val (.int p0), .val (.int n), .val (.ref b2), .val (.ref b4), .val (.ref b11), .val (.ref b19), .val (.ref b28), .val (.ref b39), .val (.int (1 : Int32)), .val (.int (1 : Int32)), .unset] [(.ref b19), (.ref b39), (.ref b2)])) rfl (by rw [hml]; rfl) (Steps.refl _) (argsL := [(.ref b39), (.ref b19)]) (rest := []) (lenOf pd_10 rfl) rfl (by show 2 * 0 + _ ≤ _; exact Nat.le_of_eq rfl) (hb hby at_152) (fun _ _ => ⟨rfl, e57, (by decide : 9 + 0 ≤ _), (by decide : 104 + 0 ≤ _)⟩)
    dsimp only [Pt.U, Pt.locs, Pt.cells, Pt.slots] at X60 l60 y60 z60 st60 hQ60
    subst l60 y60 z60
    obtain ⟨rfl, N60q, K60, E60o, F60_0, F60_1, F60_2, F60_3, F60_4⟩ := hQ60
    have KK60 : Keep h0 T60.heap [] := Keep.trans KK47 K60 (own_side1 (Or.inr sz_b2))
    have Z60 : n0 ≤ T60.heap.size := Nat.le_trans Z0 KK60.1
    have N60 := Fr.app N57 N60q
    obtain ⟨cq61, kq61, q61a, q61b, q61c⟩ := isOf hZ rfl E60o
    obtain ⟨_, _, ⟨T61, L61, k61, n61⟩, -, X61, ⟨Lc61, hQ61, l61, y61, z61⟩, st61⟩ := X60.virtualBack hx (y := (⟨"com/example/trusted_cut/trustedcut/program/Selections", "goals", "()Ljava/util/List;"⟩ : MethodName)) (z := (⟨"com/example/trusted_cut/trustedcut/program/Selections", "goals", "()Ljava/util/List;"⟩ : MethodName)) hown (mvT hZ (hw _ (List.mem_of_getElem? (i := 96) rfl))) (mvT hZ (hw _ (List.mem_of_getElem? (i := 97) rfl))) (notFace_of_selects (args := #[]) (mvT hZ (hw _ (List.mem_of_getElem? (i := 99) rfl)))) (mvT hZ (hw _ (List.mem_of_getElem? (i := 99) rfl))) (mvT hZ (hw _ (List.mem_of_getElem? (i := 98) rfl))) (by decide) (backOf (W := 0) (rmG1 l Z a0 hw [] b2 b19 T60.heap n0 Z60 F60_0 F60_2) hZ (hw _ (List.mem_of_getElem? (i := 100) rfl)) (hw _ (List.mem_of_getElem? (i := 2) rfl)) (by decide) (by decide)) q61a q61c (g := (mkF m 156 #[.val (.int p0), .val (.int n), .val (.ref b2), .val (.ref b4), .val (.ref b11), .val (.ref b19), .val (.ref b28), .val (.ref b39), .val (.int (1 : Int32)), .val (.int (1 : Int32)), .unset] [(.ref b2)])) rfl (by rw [hml]; rfl) (Steps.refl _) (argsL := []) (rest := []) (lenOf pd_6 rfl) rfl (by show 2 * 0 + _ ≤ _; exact Nat.le_of_eq rfl) (hb hby at_156) (fun _ _ => ⟨rfl, rfl, (by decide : 9 + 0 ≤ _), (by decide : 104 + 0 ≤ _)⟩)
    dsimp only [Pt.U, Pt.locs, Pt.cells, Pt.slots] at X61 l61 y61 z61 st61 hQ61
    subst l61 y61 z61
    obtain ⟨rfl, N61q, e61⟩ := hQ61
    have N61 := Fr.app N60 N61q
    obtain ⟨cq62, kq62, q62a, q62b, q62c⟩ := isOf hZ e61 E60o
    obtain ⟨_, _, ⟨T62, L62, k62, n62⟩, -, X62, ⟨Lc62, hQ62, l62, y62, z62⟩, st62⟩ := X61.virtualBack hx (y := (⟨"com/example/trusted_cut/trustedcut/program/Selections", "more", "()Lcom/example/trusted_cut/trustedcut/program/Choice;"⟩ : MethodName)) (z := (⟨"com/example/trusted_cut/trustedcut/program/Selections", "more", "()Lcom/example/trusted_cut/trustedcut/program/Choice;"⟩ : MethodName)) hown (mvT hZ (hw _ (List.mem_of_getElem? (i := 101) rfl))) (mvT hZ (hw _ (List.mem_of_getElem? (i := 102) rfl))) (notFace_of_selects (args := #[]) (mvT hZ (hw _ (List.mem_of_getElem? (i := 104) rfl)))) (mvT hZ (hw _ (List.mem_of_getElem? (i := 104) rfl))) (mvT hZ (hw _ (List.mem_of_getElem? (i := 103) rfl))) (by decide) (backOf (W := 0) (rmMO l Z a0 hw [] b2 T60.heap n0 Z60 F60_3) hZ (hw _ (List.mem_of_getElem? (i := 105) rfl)) (hw _ (List.mem_of_getElem? (i := 2) rfl)) (by decide) (by decide)) q62a q62c (g := (mkF m 165 #[.val (.int p0), .val (.int n), .val (.ref b2), .val (.ref b4), .val (.ref b11), .val (.ref b19), .val (.ref b28), .val (.ref b39), .val (.int (1 : Int32)), .val (.int (1 : Int32)), .unset] [(.ref b2)])) rfl (by rw [hml]; rfl) (Steps.refl _) (argsL := []) (rest := []) (lenOf pd_7 rfl) rfl (by show 2 * 0 + _ ≤ _; exact Nat.le_of_eq rfl) (hb hby at_165) (fun _ _ => ⟨rfl, e61, (by decide : 9 + 0 ≤ _), (by decide : 104 + 0 ≤ _)⟩)
    dsimp only [Pt.U, Pt.locs, Pt.cells, Pt.slots] at X62 l62 y62 z62 st62 hQ62
    subst l62 y62 z62
    obtain ⟨rfl, N62q, e62⟩ := hQ62
    have N62 := Fr.app N61 N62q
    obtain ⟨fs, hr, hrun, hended, hW, hsame⟩ := X62.leave (v := some (.int (1 : Int32))) (fun h => by rw [Bd.returns] at h; cases h)
    refine ⟨_, _, pre46 _ ?_, hrun, hended, _, _, rfl, ?_, ⟨_, rfl⟩, hW, hsame.mono (by decide) (by decide)⟩
    · show Steps p.tables e below (T42.setTop (mkF m 66 #[.val (.int p0), .val (.int n), .val (.ref b2), .val (.ref b4), .val (.ref b11), .val (.ref b19), .val (.ref b28), .val (.ref b39), .unset, .unset, .unset] [(.int (1 : Int32)), (.int n)])) _
      refine XS.icmpYes X42.here hx rfl (pc0 := 66) (pc' := 77) rfl (hb hby at_66) rfl (tlt (show n < (1 : Int32) from hc66)).1 (by decide) (by decide) ?_
      show Steps p.tables e below (T42.setTop (mkF m 77 #[.val (.int p0), .val (.int n), .val (.ref b2), .val (.ref b4), .val (.ref b11), .val (.ref b19), .val (.ref b28), .val (.ref b39), .unset, .unset, .unset] [])) _
      refine XS.iloadN X42.here hx rfl (hb hby at_77) rfl ?_
      show Steps p.tables e below (T42.setTop (mkF m 78 #[.val (.int p0), .val (.int n), .val (.ref b2), .val (.ref b4), .val (.ref b11), .val (.ref b19), .val (.ref b28), .val (.ref b39), .unset, .unset, .unset] [(.int n)])) _
      refine XS.iconst X42.here hx rfl (hb hby at_78) ?_
      show Steps p.tables e below (T42.setTop (mkF m 79 #[.val (.int p0), .val (.int n), .val (.ref b2), .val (.ref b4), .val (.ref b11), .val (.ref b19), .val (.ref b28), .val (.ref b39), .unset, .unset, .unset] [(.int (2 : Int32)), (.int n)])) _
      refine XS.icmpYes X42.here hx rfl (pc0 := 79) (pc' := 90) rfl (hb hby at_79) rfl (tlt (show n < (2 : Int32) from (own_lt hc66 (by decide)))).1 (by decide) (by decide) ?_
      show Steps p.tables e below (T42.setTop (mkF m 90 #[.val (.int p0), .val (.int n), .val (.ref b2), .val (.ref b4), .val (.ref b11), .val (.ref b19), .val (.ref b28), .val (.ref b39), .unset, .unset, .unset] [])) _
      refine XS.iloadN X42.here hx rfl (hb hby at_90) rfl ?_
      show Steps p.tables e below (T42.setTop (mkF m 91 #[.val (.int p0), .val (.int n), .val (.ref b2), .val (.ref b4), .val (.ref b11), .val (.ref b19), .val (.ref b28), .val (.ref b39), .unset, .unset, .unset] [(.int n)])) _
      refine XS.iconst X42.here hx rfl (hb hby at_91) ?_
      show Steps p.tables e below (T42.setTop (mkF m 92 #[.val (.int p0), .val (.int n), .val (.ref b2), .val (.ref b4), .val (.ref b11), .val (.ref b19), .val (.ref b28), .val (.ref b39), .unset, .unset, .unset] [(.int (3 : Int32)), (.int n)])) _
      refine XS.icmpYes X42.here hx rfl (pc0 := 92) (pc' := 103) rfl (hb hby at_92) rfl (tlt (show n < (3 : Int32) from (own_lt hc66 (by decide)))).1 (by decide) (by decide) ?_
      show Steps p.tables e below (T42.setTop (mkF m 103 #[.val (.int p0), .val (.int n), .val (.ref b2), .val (.ref b4), .val (.ref b11), .val (.ref b19), .val (.ref b28), .val (.ref b39), .unset, .unset, .unset] [])) _
      refine XS.aloadN X42.here hx rfl (hb hby at_103) rfl rfl ?_
      show Steps p.tables e below (T42.setTop (mkF m 104 #[.val (.int p0), .val (.int n), .val (.ref b2), .val (.ref b4), .val (.ref b11), .val (.ref b19), .val (.ref b28), .val (.ref b39), .unset, .unset, .unset] [(.ref b2)])) _
      refine st47.trans ?_
      show Steps p.tables e below (T47.setTop (mkF m 107 #[.val (.int p0), .val (.int n), .val (.ref b2), .val (.ref b4), .val (.ref b11), .val (.ref b19), .val (.ref b28), .val (.ref b39), .unset, .unset, .unset] [])) _
      refine XS.aloadN X47.here hx rfl (hb hby at_107) rfl rfl ?_
      show Steps p.tables e below (T47.setTop (mkF m 108 #[.val (.int p0), .val (.int n), .val (.ref b2), .val (.ref b4), .val (.ref b11), .val (.ref b19), .val (.ref b28), .val (.ref b39), .unset, .unset, .unset] [(.ref b2)])) _
      refine st54.trans ?_
      show Steps p.tables e below (T54.setTop (mkF m 111 #[.val (.int p0), .val (.int n), .val (.ref b2), .val (.ref b4), .val (.ref b11), .val (.ref b19), .val (.ref b28), .val (.ref b39), .unset, .unset, .unset] [.null])) _
      refine XS.ifnonnullNo X54.here hx rfl (hb hby at_111) rfl ?_
      show Steps p.tables e below (T54.setTop (mkF m 114 #[.val (.int p0), .val (.int n), .val (.ref b2), .val (.ref b4), .val (.ref b11), .val (.ref b19), .val (.ref b28), .val (.ref b39), .unset, .unset, .unset] [])) _
      refine XS.aloadN X54.here hx rfl (hb hby at_114) rfl rfl ?_
      show Steps p.tables e below (T54.setTop (mkF m 115 #[.val (.int p0), .val (.int n), .val (.ref b2), .val (.ref b4), .val (.ref b11), .val (.ref b19), .val (.ref b28), .val (.ref b39), .unset, .unset, .unset] [(.ref b2)])) _
      refine st55.trans ?_
      show Steps p.tables e below (T55.setTop (mkF m 118 #[.val (.int p0), .val (.int n), .val (.ref b2), .val (.ref b4), .val (.ref b11), .val (.ref b19), .val (.ref b28), .val (.ref b39), .unset, .unset, .unset] [.null])) _
      refine XS.ifnonnullNo X55.here hx rfl (hb hby at_118) rfl ?_
      show Steps p.tables e below (T55.setTop (mkF m 121 #[.val (.int p0), .val (.int n), .val (.ref b2), .val (.ref b4), .val (.ref b11), .val (.ref b19), .val (.ref b28), .val (.ref b39), .unset, .unset, .unset] [])) _
      refine XS.iconst X55.here hx rfl (hb hby at_121) ?_
      show Steps p.tables e below (T55.setTop (mkF m 122 #[.val (.int p0), .val (.int n), .val (.ref b2), .val (.ref b4), .val (.ref b11), .val (.ref b19), .val (.ref b28), .val (.ref b39), .unset, .unset, .unset] [(.int (1 : Int32))])) _
      refine XS.goto X55.here hx rfl (pc0 := 122) (pc' := 126) rfl (hb hby at_122) (by decide) (by decide) ?_
      show Steps p.tables e below (T55.setTop (mkF m 126 #[.val (.int p0), .val (.int n), .val (.ref b2), .val (.ref b4), .val (.ref b11), .val (.ref b19), .val (.ref b28), .val (.ref b39), .unset, .unset, .unset] [(.int (1 : Int32))])) _
      refine XS.istore X55.here hx rfl (hb hby at_126) rfl (l' := #[.val (.int p0), .val (.int n), .val (.ref b2), .val (.ref b4), .val (.ref b11), .val (.ref b19), .val (.ref b28), .val (.ref b39), .val (.int (1 : Int32)), .unset, .unset]) rfl ?_
      show Steps p.tables e below (T55.setTop (mkF m 128 #[.val (.int p0), .val (.int n), .val (.ref b2), .val (.ref b4), .val (.ref b11), .val (.ref b19), .val (.ref b28), .val (.ref b39), .val (.int (1 : Int32)), .unset, .unset] [])) _
      refine XS.aloadN X55.here hx rfl (hb hby at_128) rfl rfl ?_
      show Steps p.tables e below (T55.setTop (mkF m 129 #[.val (.int p0), .val (.int n), .val (.ref b2), .val (.ref b4), .val (.ref b11), .val (.ref b19), .val (.ref b28), .val (.ref b39), .val (.int (1 : Int32)), .unset, .unset] [(.ref b2)])) _
      refine XS.aloadN X55.here hx rfl (hb hby at_129) rfl rfl ?_
      show Steps p.tables e below (T55.setTop (mkF m 130 #[.val (.int p0), .val (.int n), .val (.ref b2), .val (.ref b4), .val (.ref b11), .val (.ref b19), .val (.ref b28), .val (.ref b39), .val (.int (1 : Int32)), .unset, .unset] [(.ref b4), (.ref b2)])) _
      refine st56.trans ?_
      show Steps p.tables e below (T56.setTop (mkF m 133 #[.val (.int p0), .val (.int n), .val (.ref b2), .val (.ref b4), .val (.ref b11), .val (.ref b19), .val (.ref b28), .val (.ref b39), .val (.int (1 : Int32)), .unset, .unset] [])) _
      refine XS.aloadN X56.here hx rfl (hb hby at_133) rfl rfl ?_
      show Steps p.tables e below (T56.setTop (mkF m 134 #[.val (.int p0), .val (.int n), .val (.ref b2), .val (.ref b4), .val (.ref b11), .val (.ref b19), .val (.ref b28), .val (.ref b39), .val (.int (1 : Int32)), .unset, .unset] [(.ref b4)])) _
      refine st57.trans ?_
      show Steps p.tables e below (T57.setTop (mkF m 137 #[.val (.int p0), .val (.int n), .val (.ref b2), .val (.ref b4), .val (.ref b11), .val (.ref b19), .val (.ref b28), .val (.ref b39), .val (.int (1 : Int32)), .unset, .unset] [(.int (0 : Int32))])) _
      refine XS.ifNo X57.here hx rfl (hb hby at_137) rfl ((if0 _ _).trans (teq (show (0 : Int32) = (0 : Int32) from (by decide))).2) ?_
      show Steps p.tables e below (T57.setTop (mkF m 140 #[.val (.int p0), .val (.int n), .val (.ref b2), .val (.ref b4), .val (.ref b11), .val (.ref b19), .val (.ref b28), .val (.ref b39), .val (.int (1 : Int32)), .unset, .unset] [])) _
      refine XS.iconst X57.here hx rfl (hb hby at_140) ?_
      show Steps p.tables e below (T57.setTop (mkF m 141 #[.val (.int p0), .val (.int n), .val (.ref b2), .val (.ref b4), .val (.ref b11), .val (.ref b19), .val (.ref b28), .val (.ref b39), .val (.int (1 : Int32)), .unset, .unset] [(.int (1 : Int32))])) _
      refine XS.goto X57.here hx rfl (pc0 := 141) (pc' := 145) rfl (hb hby at_141) (by decide) (by decide) ?_
      show Steps p.tables e below (T57.setTop (mkF m 145 #[.val (.int p0), .val (.int n), .val (.ref b2), .val (.ref b4), .val (.ref b11), .val (.ref b19), .val (.ref b28), .val (.ref b39), .val (.int (1 : Int32)), .unset, .unset] [(.int (1 : Int32))])) _
      refine XS.istore X57.here hx rfl (hb hby at_145) rfl (l' := #[.val (.int p0), .val (.int n), .val (.ref b2), .val (.ref b4), .val (.ref b11), .val (.ref b19), .val (.ref b28), .val (.ref b39), .val (.int (1 : Int32)), .val (.int (1 : Int32)), .unset]) rfl ?_
      show Steps p.tables e below (T57.setTop (mkF m 147 #[.val (.int p0), .val (.int n), .val (.ref b2), .val (.ref b4), .val (.ref b11), .val (.ref b19), .val (.ref b28), .val (.ref b39), .val (.int (1 : Int32)), .val (.int (1 : Int32)), .unset] [])) _
      refine XS.aloadN X57.here hx rfl (hb hby at_147) rfl rfl ?_
      show Steps p.tables e below (T57.setTop (mkF m 148 #[.val (.int p0), .val (.int n), .val (.ref b2), .val (.ref b4), .val (.ref b11), .val (.ref b19), .val (.ref b28), .val (.ref b39), .val (.int (1 : Int32)), .val (.int (1 : Int32)), .unset] [(.ref b2)])) _
      refine XS.aload X57.here hx rfl (hb hby at_148) rfl rfl ?_
      show Steps p.tables e below (T57.setTop (mkF m 150 #[.val (.int p0), .val (.int n), .val (.ref b2), .val (.ref b4), .val (.ref b11), .val (.ref b19), .val (.ref b28), .val (.ref b39), .val (.int (1 : Int32)), .val (.int (1 : Int32)), .unset] [(.ref b39), (.ref b2)])) _
      refine XS.aload X57.here hx rfl (hb hby at_150) rfl rfl ?_
      show Steps p.tables e below (T57.setTop (mkF m 152 #[.val (.int p0), .val (.int n), .val (.ref b2), .val (.ref b4), .val (.ref b11), .val (.ref b19), .val (.ref b28), .val (.ref b39), .val (.int (1 : Int32)), .val (.int (1 : Int32)), .unset] [(.ref b19), (.ref b39), (.ref b2)])) _
      refine st60.trans ?_
      show Steps p.tables e below (T60.setTop (mkF m 155 #[.val (.int p0), .val (.int n), .val (.ref b2), .val (.ref b4), .val (.ref b11), .val (.ref b19), .val (.ref b28), .val (.ref b39), .val (.int (1 : Int32)), .val (.int (1 : Int32)), .unset] [])) _
      refine XS.aloadN X60.here hx rfl (hb hby at_155) rfl rfl ?_
      show Steps p.tables e below (T60.setTop (mkF m 156 #[.val (.int p0), .val (.int n), .val (.ref b2), .val (.ref b4), .val (.ref b11), .val (.ref b19), .val (.ref b28), .val (.ref b39), .val (.int (1 : Int32)), .val (.int (1 : Int32)), .unset] [(.ref b2)])) _
      refine st61.trans ?_
      show Steps p.tables e below (T61.setTop (mkF m 159 #[.val (.int p0), .val (.int n), .val (.ref b2), .val (.ref b4), .val (.ref b11), .val (.ref b19), .val (.ref b28), .val (.ref b39), .val (.int (1 : Int32)), .val (.int (1 : Int32)), .unset] [(.ref b19)])) _
      refine XS.aload X61.here hx rfl (hb hby at_159) rfl rfl ?_
      show Steps p.tables e below (T61.setTop (mkF m 161 #[.val (.int p0), .val (.int n), .val (.ref b2), .val (.ref b4), .val (.ref b11), .val (.ref b19), .val (.ref b28), .val (.ref b39), .val (.int (1 : Int32)), .val (.int (1 : Int32)), .unset] [(.ref b19), (.ref b19)])) _
      refine Jvm.RoadKit.acmp (g := (mkF m 161 #[.val (.int p0), .val (.int n), .val (.ref b2), .val (.ref b4), .val (.ref b11), .val (.ref b19), .val (.ref b28), .val (.ref b39), .val (.int (1 : Int32)), .val (.int (1 : Int32)), .unset] [(.ref b19), (.ref b19)])) X61 hx rfl rfl rfl (pc0 := 161) (pc' := 164) (same := true) rfl (hb hby at_161) rfl (decide_eq_true rfl) (by decide) (by decide) ?_
      show Steps p.tables e below (T61.setTop (mkF m 164 #[.val (.int p0), .val (.int n), .val (.ref b2), .val (.ref b4), .val (.ref b11), .val (.ref b19), .val (.ref b28), .val (.ref b39), .val (.int (1 : Int32)), .val (.int (1 : Int32)), .unset] [])) _
      refine XS.aloadN X61.here hx rfl (hb hby at_164) rfl rfl ?_
      show Steps p.tables e below (T61.setTop (mkF m 165 #[.val (.int p0), .val (.int n), .val (.ref b2), .val (.ref b4), .val (.ref b11), .val (.ref b19), .val (.ref b28), .val (.ref b39), .val (.int (1 : Int32)), .val (.int (1 : Int32)), .unset] [(.ref b2)])) _
      refine st62.trans ?_
      show Steps p.tables e below (T62.setTop (mkF m 168 #[.val (.int p0), .val (.int n), .val (.ref b2), .val (.ref b4), .val (.ref b11), .val (.ref b19), .val (.ref b28), .val (.ref b39), .val (.int (1 : Int32)), .val (.int (1 : Int32)), .unset] [.null])) _
      refine XS.ifnonnullNo X62.here hx rfl (hb hby at_168) rfl ?_
      show Steps p.tables e below (T62.setTop (mkF m 171 #[.val (.int p0), .val (.int n), .val (.ref b2), .val (.ref b4), .val (.ref b11), .val (.ref b19), .val (.ref b28), .val (.ref b39), .val (.int (1 : Int32)), .val (.int (1 : Int32)), .unset] [])) _
      refine XS.iconst X62.here hx rfl (hb hby at_171) ?_
      show Steps p.tables e below (T62.setTop (mkF m 172 #[.val (.int p0), .val (.int n), .val (.ref b2), .val (.ref b4), .val (.ref b11), .val (.ref b19), .val (.ref b28), .val (.ref b39), .val (.int (1 : Int32)), .val (.int (1 : Int32)), .unset] [(.int (1 : Int32))])) _
      refine XS.goto X62.here hx rfl (pc0 := 172) (pc' := 176) rfl (hb hby at_172) (by decide) (by decide) ?_
      show Steps p.tables e below (T62.setTop (mkF m 176 #[.val (.int p0), .val (.int n), .val (.ref b2), .val (.ref b4), .val (.ref b11), .val (.ref b19), .val (.ref b28), .val (.ref b39), .val (.int (1 : Int32)), .val (.int (1 : Int32)), .unset] [(.int (1 : Int32))])) _
      refine XS.istore X62.here hx rfl (hb hby at_176) rfl (l' := #[.val (.int p0), .val (.int n), .val (.ref b2), .val (.ref b4), .val (.ref b11), .val (.ref b19), .val (.ref b28), .val (.ref b39), .val (.int (1 : Int32)), .val (.int (1 : Int32)), .val (.int (1 : Int32))]) rfl ?_
      show Steps p.tables e below (T62.setTop (mkF m 178 #[.val (.int p0), .val (.int n), .val (.ref b2), .val (.ref b4), .val (.ref b11), .val (.ref b19), .val (.ref b28), .val (.ref b39), .val (.int (1 : Int32)), .val (.int (1 : Int32)), .val (.int (1 : Int32))] [])) _
      refine XS.iload X62.here hx rfl (hb hby at_178) rfl ?_
      show Steps p.tables e below (T62.setTop (mkF m 180 #[.val (.int p0), .val (.int n), .val (.ref b2), .val (.ref b4), .val (.ref b11), .val (.ref b19), .val (.ref b28), .val (.ref b39), .val (.int (1 : Int32)), .val (.int (1 : Int32)), .val (.int (1 : Int32))] [(.int (1 : Int32))])) _
      refine XS.ifNo X62.here hx rfl (hb hby at_180) rfl ((if0 _ _).trans (feq (show ¬ ((1 : Int32) = (0 : Int32)) from (by decide))).1) ?_
      show Steps p.tables e below (T62.setTop (mkF m 183 #[.val (.int p0), .val (.int n), .val (.ref b2), .val (.ref b4), .val (.ref b11), .val (.ref b19), .val (.ref b28), .val (.ref b39), .val (.int (1 : Int32)), .val (.int (1 : Int32)), .val (.int (1 : Int32))] [])) _
      refine XS.iload X62.here hx rfl (hb hby at_183) rfl ?_
      show Steps p.tables e below (T62.setTop (mkF m 185 #[.val (.int p0), .val (.int n), .val (.ref b2), .val (.ref b4), .val (.ref b11), .val (.ref b19), .val (.ref b28), .val (.ref b39), .val (.int (1 : Int32)), .val (.int (1 : Int32)), .val (.int (1 : Int32))] [(.int (1 : Int32))])) _
      refine XS.ifNo X62.here hx rfl (hb hby at_185) rfl ((if0 _ _).trans (feq (show ¬ ((1 : Int32) = (0 : Int32)) from (by decide))).1) ?_
      show Steps p.tables e below (T62.setTop (mkF m 188 #[.val (.int p0), .val (.int n), .val (.ref b2), .val (.ref b4), .val (.ref b11), .val (.ref b19), .val (.ref b28), .val (.ref b39), .val (.int (1 : Int32)), .val (.int (1 : Int32)), .val (.int (1 : Int32))] [])) _
      refine XS.iload X62.here hx rfl (hb hby at_188) rfl ?_
      show Steps p.tables e below (T62.setTop (mkF m 190 #[.val (.int p0), .val (.int n), .val (.ref b2), .val (.ref b4), .val (.ref b11), .val (.ref b19), .val (.ref b28), .val (.ref b39), .val (.int (1 : Int32)), .val (.int (1 : Int32)), .val (.int (1 : Int32))] [(.int (1 : Int32))])) _
      refine XS.ifNo X62.here hx rfl (hb hby at_190) rfl ((if0 _ _).trans (feq (show ¬ ((1 : Int32) = (0 : Int32)) from (by decide))).1) ?_
      show Steps p.tables e below (T62.setTop (mkF m 193 #[.val (.int p0), .val (.int n), .val (.ref b2), .val (.ref b4), .val (.ref b11), .val (.ref b19), .val (.ref b28), .val (.ref b39), .val (.int (1 : Int32)), .val (.int (1 : Int32)), .val (.int (1 : Int32))] [])) _
      refine XS.iconst X62.here hx rfl (hb hby at_193) ?_
      show Steps p.tables e below (T62.setTop (mkF m 194 #[.val (.int p0), .val (.int n), .val (.ref b2), .val (.ref b4), .val (.ref b11), .val (.ref b19), .val (.ref b28), .val (.ref b39), .val (.int (1 : Int32)), .val (.int (1 : Int32)), .val (.int (1 : Int32))] [(.int (1 : Int32))])) _
      refine XS.goto X62.here hx rfl (pc0 := 194) (pc' := 198) rfl (hb hby at_194) (by decide) (by decide) ?_
      show Steps p.tables e below (T62.setTop (mkF m 198 #[.val (.int p0), .val (.int n), .val (.ref b2), .val (.ref b4), .val (.ref b11), .val (.ref b19), .val (.ref b28), .val (.ref b39), .val (.int (1 : Int32)), .val (.int (1 : Int32)), .val (.int (1 : Int32))] [(.int (1 : Int32))])) _
      exact retN X62 hx (t := .boolean) Bd.returns (by simp) (hb hby at_198) hr
    · show Q0 h0 n0 _ T62.heap _
      rw [e62]
      exact ⟨rfl, N62⟩
  · have f64 := ((f35.ext E39).keep K42)
    have f65 := ((((((((((F_size_b2.ext E4).keep K5 (own_notin1 ne_b2_b4)).ext E11).keep K12 (own_notin1 ne_b2_b11)).ext E19).keep K20 (own_notin1 ne_b2_b19)).ext E28).keep K31 (own_notin1 ne_b2_b28)).ext E39).keep K42 (own_notin1 ne_b2_b39))
    have f66 := ((((((((((F_firstUnifier_b2.ext E4).keep K5 (own_notin1 ne_b2_b4)).ext E11).keep K12 (own_notin1 ne_b2_b11)).ext E19).keep K20 (own_notin1 ne_b2_b19)).ext E28).keep K31 (own_notin1 ne_b2_b28)).ext E39).keep K42 (own_notin1 ne_b2_b39))
    have f67 := ((((((((((F_firstGoals_b2.ext E4).keep K5 (own_notin1 ne_b2_b4)).ext E11).keep K12 (own_notin1 ne_b2_b11)).ext E19).keep K20 (own_notin1 ne_b2_b19)).ext E28).keep K31 (own_notin1 ne_b2_b28)).ext E39).keep K42 (own_notin1 ne_b2_b39))
    have f68 := ((((((((((F_more_b2.ext E4).keep K5 (own_notin1 ne_b2_b4)).ext E11).keep K12 (own_notin1 ne_b2_b11)).ext E19).keep K20 (own_notin1 ne_b2_b19)).ext E28).keep K31 (own_notin1 ne_b2_b28)).ext E39).keep K42 (own_notin1 ne_b2_b39))
    have f69 := ((((((((((F_last_b2.ext E4).keep K5 (own_notin1 ne_b2_b4)).ext E11).keep K12 (own_notin1 ne_b2_b11)).ext E19).keep K20 (own_notin1 ne_b2_b19)).ext E28).keep K31 (own_notin1 ne_b2_b28)).ext E39).keep K42 (own_notin1 ne_b2_b39))
    obtain ⟨cq63, kq63, q63a, q63b, q63c⟩ := isOf hZ rfl f64
    obtain ⟨_, _, ⟨T63, L63, k63, n63⟩, -, X63, ⟨Lc63, hQ63, l63, y63, z63⟩, st63⟩ := X42.virtualBack hx (y := (⟨"com/example/trusted_cut/trustedcut/program/Selections", "add", "(Lcom/example/trusted_cut/trustedcut/program/Unifier;Ljava/util/List;)V"⟩ : MethodName)) (z := (⟨"com/example/trusted_cut/trustedcut/program/Selections", "add", "(Lcom/example/trusted_cut/trustedcut/program/Unifier;Ljava/util/List;)V"⟩ : MethodName)) hown (mvT hZ (hw _ (List.mem_of_getElem? (i := 118) rfl))) (mvT hZ (hw _ (List.mem_of_getElem? (i := 119) rfl))) (notFace_of_selects (args := #[]) (mvT hZ (hw _ (List.mem_of_getElem? (i := 121) rfl)))) (mvT hZ (hw _ (List.mem_of_getElem? (i := 121) rfl))) (mvT hZ (hw _ (List.mem_of_getElem? (i := 120) rfl))) (by decide) (backOf (W := 0) (rmA0 l Z a0 hw [] b2 b28 b11 T42.heap n0 Z42 f64 f65 f66 f67 f68 f69 g_b2) hZ (hw _ (List.mem_of_getElem? (i := 122) rfl)) (hw _ (List.mem_of_getElem? (i := 2) rfl)) (by decide) (by decide)) q63a q63c (g := (mkF m 74 #[.val (.int p0), .val (.int n), .val (.ref b2), .val (.ref b4), .val (.ref b11), .val (.ref b19), .val (.ref b28), .val (.ref b39), .unset, .unset, .unset] [(.ref b11), (.ref b28), (.ref b2)])) rfl (by rw [hml]; rfl) (Steps.refl _) (argsL := [(.ref b28), (.ref b11)]) (rest := []) (lenOf pd_10 rfl) rfl (by show 2 * 0 + _ ≤ _; exact Nat.le_of_eq rfl) (hb hby at_74) (fun _ _ => ⟨rfl, rfl, (by decide : 9 + 0 ≤ _), (by decide : 104 + 0 ≤ _)⟩)
    dsimp only [Pt.U, Pt.locs, Pt.cells, Pt.slots] at X63 l63 y63 z63 st63 hQ63
    subst l63 y63 z63
    obtain ⟨rfl, N63q, K63, E63o, F63_0, F63_1, F63_2, F63_3, F63_4⟩ := hQ63
    have KK63 : Keep h0 T63.heap [] := Keep.trans KK42 K63 (own_side1 (Or.inr sz_b2))
    have Z63 : n0 ≤ T63.heap.size := Nat.le_trans Z0 KK63.1
    have N63 := Fr.app N42 N63q
    have pre70 : ∀ t, Steps p.tables e below (T63.setTop (mkF m 79 #[.val (.int p0), .val (.int n), .val (.ref b2), .val (.ref b4), .val (.ref b11), .val (.ref b19), .val (.ref b28), .val (.ref b39), .unset, .unset, .unset] [(.int (2 : Int32)), (.int n)])) t → Steps p.tables e below (s₁.setTop (entryFrame m #[(.int p0)] maxLocals)) t := fun t kt => pre46 t (by
        show Steps p.tables e below (T42.setTop (mkF m 66 #[.val (.int p0), .val (.int n), .val (.ref b2), .val (.ref b4), .val (.ref b11), .val (.ref b19), .val (.ref b28), .val (.ref b39), .unset, .unset, .unset] [(.int (1 : Int32)), (.int n)])) _
        refine XS.icmpNo X42.here hx rfl (hb hby at_66) rfl (flt (show ¬ (n < (1 : Int32)) from hc66)).1 ?_
        show Steps p.tables e below (T42.setTop (mkF m 69 #[.val (.int p0), .val (.int n), .val (.ref b2), .val (.ref b4), .val (.ref b11), .val (.ref b19), .val (.ref b28), .val (.ref b39), .unset, .unset, .unset] [])) _
        refine XS.aloadN X42.here hx rfl (hb hby at_69) rfl rfl ?_
        show Steps p.tables e below (T42.setTop (mkF m 70 #[.val (.int p0), .val (.int n), .val (.ref b2), .val (.ref b4), .val (.ref b11), .val (.ref b19), .val (.ref b28), .val (.ref b39), .unset, .unset, .unset] [(.ref b2)])) _
        refine XS.aload X42.here hx rfl (hb hby at_70) rfl rfl ?_
        show Steps p.tables e below (T42.setTop (mkF m 72 #[.val (.int p0), .val (.int n), .val (.ref b2), .val (.ref b4), .val (.ref b11), .val (.ref b19), .val (.ref b28), .val (.ref b39), .unset, .unset, .unset] [(.ref b28), (.ref b2)])) _
        refine XS.aload X42.here hx rfl (hb hby at_72) rfl rfl ?_
        show Steps p.tables e below (T42.setTop (mkF m 74 #[.val (.int p0), .val (.int n), .val (.ref b2), .val (.ref b4), .val (.ref b11), .val (.ref b19), .val (.ref b28), .val (.ref b39), .unset, .unset, .unset] [(.ref b11), (.ref b28), (.ref b2)])) _
        refine st63.trans ?_
        show Steps p.tables e below (T63.setTop (mkF m 77 #[.val (.int p0), .val (.int n), .val (.ref b2), .val (.ref b4), .val (.ref b11), .val (.ref b19), .val (.ref b28), .val (.ref b39), .unset, .unset, .unset] [])) _
        refine XS.iloadN X63.here hx rfl (hb hby at_77) rfl ?_
        show Steps p.tables e below (T63.setTop (mkF m 78 #[.val (.int p0), .val (.int n), .val (.ref b2), .val (.ref b4), .val (.ref b11), .val (.ref b19), .val (.ref b28), .val (.ref b39), .unset, .unset, .unset] [(.int n)])) _
        refine XS.iconst X63.here hx rfl (hb hby at_78) ?_
        exact kt)
    by_cases hc79 : n < (2 : Int32)
    · obtain ⟨cq71, kq71, q71a, q71b, q71c⟩ := isOf hZ rfl E63o
      obtain ⟨_, _, ⟨T71, L71, k71, n71⟩, -, X71, ⟨Lc71, hQ71, l71, y71, z71⟩, st71⟩ := X63.virtualBack hx (y := (⟨"com/example/trusted_cut/trustedcut/program/Selections", "clear", "()V"⟩ : MethodName)) (z := (⟨"com/example/trusted_cut/trustedcut/program/Selections", "clear", "()V"⟩ : MethodName)) hown (mvT hZ (hw _ (List.mem_of_getElem? (i := 81) rfl))) (mvT hZ (hw _ (List.mem_of_getElem? (i := 82) rfl))) (notFace_of_selects (args := #[]) (mvT hZ (hw _ (List.mem_of_getElem? (i := 84) rfl)))) (mvT hZ (hw _ (List.mem_of_getElem? (i := 84) rfl))) (mvT hZ (hw _ (List.mem_of_getElem? (i := 83) rfl))) (by decide) (backOf (W := 0) (rmCL l Z a0 hw [] b2 (.int (1 : Int32)) (.ref b28) (.ref b11) .null .null T63.heap n0 Z63 E63o F63_0 F63_1 F63_2 F63_3 F63_4 g_b2) hZ (hw _ (List.mem_of_getElem? (i := 85) rfl)) (hw _ (List.mem_of_getElem? (i := 2) rfl)) (by decide) (by decide)) q71a q71c (g := (mkF m 104 #[.val (.int p0), .val (.int n), .val (.ref b2), .val (.ref b4), .val (.ref b11), .val (.ref b19), .val (.ref b28), .val (.ref b39), .unset, .unset, .unset] [(.ref b2)])) rfl (by rw [hml]; rfl) (Steps.refl _) (argsL := []) (rest := []) (lenOf pd_0 rfl) rfl (by show 2 * 0 + _ ≤ _; exact Nat.le_of_eq rfl) (hb hby at_104) (fun _ _ => ⟨rfl, rfl, (by decide : 9 + 0 ≤ _), (by decide : 104 + 0 ≤ _)⟩)
      dsimp only [Pt.U, Pt.locs, Pt.cells, Pt.slots] at X71 l71 y71 z71 st71 hQ71
      subst l71 y71 z71
      obtain ⟨rfl, N71q, K71, E71o, F71_0, F71_1, F71_2, F71_3, F71_4⟩ := hQ71
      have KK71 : Keep h0 T71.heap [] := Keep.trans KK63 K71 (own_side1 (Or.inr sz_b2))
      have Z71 : n0 ≤ T71.heap.size := Nat.le_trans Z0 KK71.1
      have N71 := Fr.app N63 N71q
      obtain ⟨cq72, kq72, q72a, q72b, q72c⟩ := isOf hZ rfl E71o
      obtain ⟨_, _, ⟨T72, L72, k72, n72⟩, -, X72, ⟨Lc72, hQ72, l72, y72, z72⟩, st72⟩ := X71.virtualBack hx (y := (⟨"com/example/trusted_cut/trustedcut/program/Selections", "goals", "()Ljava/util/List;"⟩ : MethodName)) (z := (⟨"com/example/trusted_cut/trustedcut/program/Selections", "goals", "()Ljava/util/List;"⟩ : MethodName)) hown (mvT hZ (hw _ (List.mem_of_getElem? (i := 96) rfl))) (mvT hZ (hw _ (List.mem_of_getElem? (i := 97) rfl))) (notFace_of_selects (args := #[]) (mvT hZ (hw _ (List.mem_of_getElem? (i := 99) rfl)))) (mvT hZ (hw _ (List.mem_of_getElem? (i := 99) rfl))) (mvT hZ (hw _ (List.mem_of_getElem? (i := 98) rfl))) (by decide) (backOf (W := 0) (rmG0 l Z a0 hw [] b2 T71.heap n0 Z71 F71_0) hZ (hw _ (List.mem_of_getElem? (i := 100) rfl)) (hw _ (List.mem_of_getElem? (i := 2) rfl)) (by decide) (by decide)) q72a q72c (g := (mkF m 108 #[.val (.int p0), .val (.int n), .val (.ref b2), .val (.ref b4), .val (.ref b11), .val (.ref b19), .val (.ref b28), .val (.ref b39), .unset, .unset, .unset] [(.ref b2)])) rfl (by rw [hml]; rfl) (Steps.refl _) (argsL := []) (rest := []) (lenOf pd_6 rfl) rfl (by show 2 * 0 + _ ≤ _; exact Nat.le_of_eq rfl) (hb hby at_108) (fun _ _ => ⟨rfl, rfl, (by decide : 9 + 0 ≤ _), (by decide : 104 + 0 ≤ _)⟩)
      dsimp only [Pt.U, Pt.locs, Pt.cells, Pt.slots] at X72 l72 y72 z72 st72 hQ72
      subst l72 y72 z72
      obtain ⟨rfl, N72q, e72⟩ := hQ72
      have N72 := Fr.app N71 N72q
      obtain ⟨cq73, kq73, q73a, q73b, q73c⟩ := isOf hZ e72 E71o
      obtain ⟨_, _, ⟨T73, L73, k73, n73⟩, -, X73, ⟨Lc73, hQ73, l73, y73, z73⟩, st73⟩ := X72.virtualBack hx (y := (⟨"com/example/trusted_cut/trustedcut/program/Selections", "more", "()Lcom/example/trusted_cut/trustedcut/program/Choice;"⟩ : MethodName)) (z := (⟨"com/example/trusted_cut/trustedcut/program/Selections", "more", "()Lcom/example/trusted_cut/trustedcut/program/Choice;"⟩ : MethodName)) hown (mvT hZ (hw _ (List.mem_of_getElem? (i := 101) rfl))) (mvT hZ (hw _ (List.mem_of_getElem? (i := 102) rfl))) (notFace_of_selects (args := #[]) (mvT hZ (hw _ (List.mem_of_getElem? (i := 104) rfl)))) (mvT hZ (hw _ (List.mem_of_getElem? (i := 104) rfl))) (mvT hZ (hw _ (List.mem_of_getElem? (i := 103) rfl))) (by decide) (backOf (W := 0) (rmMO l Z a0 hw [] b2 T71.heap n0 Z71 F71_3) hZ (hw _ (List.mem_of_getElem? (i := 105) rfl)) (hw _ (List.mem_of_getElem? (i := 2) rfl)) (by decide) (by decide)) q73a q73c (g := (mkF m 115 #[.val (.int p0), .val (.int n), .val (.ref b2), .val (.ref b4), .val (.ref b11), .val (.ref b19), .val (.ref b28), .val (.ref b39), .unset, .unset, .unset] [(.ref b2)])) rfl (by rw [hml]; rfl) (Steps.refl _) (argsL := []) (rest := []) (lenOf pd_7 rfl) rfl (by show 2 * 0 + _ ≤ _; exact Nat.le_of_eq rfl) (hb hby at_115) (fun _ _ => ⟨rfl, e72, (by decide : 9 + 0 ≤ _), (by decide : 104 + 0 ≤ _)⟩)
      dsimp only [Pt.U, Pt.locs, Pt.cells, Pt.slots] at X73 l73 y73 z73 st73 hQ73
      subst l73 y73 z73
      obtain ⟨rfl, N73q, e73⟩ := hQ73
      have N73 := Fr.app N72 N73q
      obtain ⟨cq74, kq74, q74a, q74b, q74c⟩ := isOf hZ e73 E71o
      obtain ⟨_, _, ⟨T74, L74, k74, n74⟩, -, X74, ⟨Lc74, hQ74, l74, y74, z74⟩, st74⟩ := X73.virtualBack hx (y := (⟨"com/example/trusted_cut/trustedcut/program/Selections", "enterFirst", "(Lcom/example/trusted_cut/trustedcut/program/Bindings;)V"⟩ : MethodName)) (z := (⟨"com/example/trusted_cut/trustedcut/program/Selections", "enterFirst", "(Lcom/example/trusted_cut/trustedcut/program/Bindings;)V"⟩ : MethodName)) hown (mvT hZ (hw _ (List.mem_of_getElem? (i := 106) rfl))) (mvT hZ (hw _ (List.mem_of_getElem? (i := 107) rfl))) (notFace_of_selects (args := #[]) (mvT hZ (hw _ (List.mem_of_getElem? (i := 109) rfl)))) (mvT hZ (hw _ (List.mem_of_getElem? (i := 109) rfl))) (mvT hZ (hw _ (List.mem_of_getElem? (i := 108) rfl))) (by decide) (backOf (W := 0) (rmEF l Z a0 hw [] b2 b4 T71.heap n0 Z71 F71_1) hZ (hw _ (List.mem_of_getElem? (i := 110) rfl)) (hw _ (List.mem_of_getElem? (i := 2) rfl)) (by decide) (by decide)) q74a q74c (g := (mkF m 130 #[.val (.int p0), .val (.int n), .val (.ref b2), .val (.ref b4), .val (.ref b11), .val (.ref b19), .val (.ref b28), .val (.ref b39), .val (.int (1 : Int32)), .unset, .unset] [(.ref b4), (.ref b2)])) rfl (by rw [hml]; rfl) (Steps.refl _) (argsL := [(.ref b4)]) (rest := []) (lenOf pd_8 rfl) rfl (by show 2 * 0 + _ ≤ _; exact Nat.le_of_eq rfl) (hb hby at_130) (fun _ _ => ⟨rfl, e73, (by decide : 9 + 0 ≤ _), (by decide : 104 + 0 ≤ _)⟩)
      dsimp only [Pt.U, Pt.locs, Pt.cells, Pt.slots] at X74 l74 y74 z74 st74 hQ74
      subst l74 y74 z74
      obtain ⟨rfl, N74q, e74⟩ := hQ74
      have N74 := Fr.app N73 N74q
      have f76 := ((((((((((F5_0.ext E11).keep K12 (own_notin1 ne_b4_b11)).ext E19).keep K20 (own_notin1 ne_b4_b19)).ext E28).keep K31 (own_notin1 ne_b4_b28)).ext E39).keep K42 (own_notin1 ne_b4_b39)).keep K63 (own_notin1 (Ne.symm ne_b2_b4))).keep K71 (own_notin1 (Ne.symm ne_b2_b4)))
      have f77 := ((((f36.ext E39).keep K42).keep K63).keep K71)
      obtain ⟨cq75, kq75, q75a, q75b, q75c⟩ := isOf hZ e74 f77
      obtain ⟨_, _, ⟨T75, L75, k75, n75⟩, -, X75, ⟨Lc75, hQ75, l75, y75, z75⟩, st75⟩ := X74.virtualBack hx (y := (⟨"com/example/trusted_cut/trustedcut/program/Bindings", "mark", "()I"⟩ : MethodName)) (z := (⟨"com/example/trusted_cut/trustedcut/program/Bindings", "mark", "()I"⟩ : MethodName)) hown (mvT hZ (hw _ (List.mem_of_getElem? (i := 111) rfl))) (mvT hZ (hw _ (List.mem_of_getElem? (i := 112) rfl))) (notFace_of_selects (args := #[]) (mvT hZ (hw _ (List.mem_of_getElem? (i := 114) rfl)))) (mvT hZ (hw _ (List.mem_of_getElem? (i := 114) rfl))) (mvT hZ (hw _ (List.mem_of_getElem? (i := 113) rfl))) (by decide) (backOf (W := 0) (rmMK l Z a0 hw [] b4 T71.heap n0 Z71 f76) hZ (hw _ (List.mem_of_getElem? (i := 115) rfl)) (hw _ (List.mem_of_getElem? (i := 11) rfl)) (by decide) (by decide)) q75a q75c (g := (mkF m 134 #[.val (.int p0), .val (.int n), .val (.ref b2), .val (.ref b4), .val (.ref b11), .val (.ref b19), .val (.ref b28), .val (.ref b39), .val (.int (1 : Int32)), .unset, .unset] [(.ref b4)])) rfl (by rw [hml]; rfl) (Steps.refl _) (argsL := []) (rest := []) (lenOf pd_9 rfl) rfl (by show 2 * 0 + _ ≤ _; exact Nat.le_of_eq rfl) (hb hby at_134) (fun _ _ => ⟨rfl, e74, (by decide : 9 + 0 ≤ _), (by decide : 104 + 0 ≤ _)⟩)
      dsimp only [Pt.U, Pt.locs, Pt.cells, Pt.slots] at X75 l75 y75 z75 st75 hQ75
      subst l75 y75 z75
      obtain ⟨rfl, N75q, e75⟩ := hQ75
      have N75 := Fr.app N74 N75q
      obtain ⟨cq78, kq78, q78a, q78b, q78c⟩ := isOf hZ e75 E71o
      obtain ⟨_, _, ⟨T78, L78, k78, n78⟩, -, X78, ⟨Lc78, hQ78, l78, y78, z78⟩, st78⟩ := X75.virtualBack hx (y := (⟨"com/example/trusted_cut/trustedcut/program/Selections", "add", "(Lcom/example/trusted_cut/trustedcut/program/Unifier;Ljava/util/List;)V"⟩ : MethodName)) (z := (⟨"com/example/trusted_cut/trustedcut/program/Selections", "add", "(Lcom/example/trusted_cut/trustedcut/program/Unifier;Ljava/util/List;)V"⟩ : MethodName)) hown (mvT hZ (hw _ (List.mem_of_getElem? (i := 118) rfl))) (mvT hZ (hw _ (List.mem_of_getElem? (i := 119) rfl))) (notFace_of_selects (args := #[]) (mvT hZ (hw _ (List.mem_of_getElem? (i := 121) rfl)))) (mvT hZ (hw _ (List.mem_of_getElem? (i := 121) rfl))) (mvT hZ (hw _ (List.mem_of_getElem? (i := 120) rfl))) (by decide) (backOf (W := 0) (rmA0 l Z a0 hw [] b2 b39 b19 T71.heap n0 Z71 E71o F71_0 F71_1 F71_2 F71_3 F71_4 g_b2) hZ (hw _ (List.mem_of_getElem? (i := 122) rfl)) (hw _ (List.mem_of_getElem? (i := 2) rfl)) (by decide) (by decide)) q78a q78c (g := (mkF m 152 #[.val (.int p0), .val (.int n), .val (.ref b2), .val (.ref b4), .val (.ref b11), .val (.ref b19), .val (.ref b28), .val (.ref b39), .val (.int (1 : Int32)), .val (.int (1 : Int32)), .unset] [(.ref b19), (.ref b39), (.ref b2)])) rfl (by rw [hml]; rfl) (Steps.refl _) (argsL := [(.ref b39), (.ref b19)]) (rest := []) (lenOf pd_10 rfl) rfl (by show 2 * 0 + _ ≤ _; exact Nat.le_of_eq rfl) (hb hby at_152) (fun _ _ => ⟨rfl, e75, (by decide : 9 + 0 ≤ _), (by decide : 104 + 0 ≤ _)⟩)
      dsimp only [Pt.U, Pt.locs, Pt.cells, Pt.slots] at X78 l78 y78 z78 st78 hQ78
      subst l78 y78 z78
      obtain ⟨rfl, N78q, K78, E78o, F78_0, F78_1, F78_2, F78_3, F78_4⟩ := hQ78
      have KK78 : Keep h0 T78.heap [] := Keep.trans KK71 K78 (own_side1 (Or.inr sz_b2))
      have Z78 : n0 ≤ T78.heap.size := Nat.le_trans Z0 KK78.1
      have N78 := Fr.app N75 N78q
      obtain ⟨cq79, kq79, q79a, q79b, q79c⟩ := isOf hZ rfl E78o
      obtain ⟨_, _, ⟨T79, L79, k79, n79⟩, -, X79, ⟨Lc79, hQ79, l79, y79, z79⟩, st79⟩ := X78.virtualBack hx (y := (⟨"com/example/trusted_cut/trustedcut/program/Selections", "goals", "()Ljava/util/List;"⟩ : MethodName)) (z := (⟨"com/example/trusted_cut/trustedcut/program/Selections", "goals", "()Ljava/util/List;"⟩ : MethodName)) hown (mvT hZ (hw _ (List.mem_of_getElem? (i := 96) rfl))) (mvT hZ (hw _ (List.mem_of_getElem? (i := 97) rfl))) (notFace_of_selects (args := #[]) (mvT hZ (hw _ (List.mem_of_getElem? (i := 99) rfl)))) (mvT hZ (hw _ (List.mem_of_getElem? (i := 99) rfl))) (mvT hZ (hw _ (List.mem_of_getElem? (i := 98) rfl))) (by decide) (backOf (W := 0) (rmG1 l Z a0 hw [] b2 b19 T78.heap n0 Z78 F78_0 F78_2) hZ (hw _ (List.mem_of_getElem? (i := 100) rfl)) (hw _ (List.mem_of_getElem? (i := 2) rfl)) (by decide) (by decide)) q79a q79c (g := (mkF m 156 #[.val (.int p0), .val (.int n), .val (.ref b2), .val (.ref b4), .val (.ref b11), .val (.ref b19), .val (.ref b28), .val (.ref b39), .val (.int (1 : Int32)), .val (.int (1 : Int32)), .unset] [(.ref b2)])) rfl (by rw [hml]; rfl) (Steps.refl _) (argsL := []) (rest := []) (lenOf pd_6 rfl) rfl (by show 2 * 0 + _ ≤ _; exact Nat.le_of_eq rfl) (hb hby at_156) (fun _ _ => ⟨rfl, rfl, (by decide : 9 + 0 ≤ _), (by decide : 104 + 0 ≤ _)⟩)
      dsimp only [Pt.U, Pt.locs, Pt.cells, Pt.slots] at X79 l79 y79 z79 st79 hQ79
      subst l79 y79 z79
      obtain ⟨rfl, N79q, e79⟩ := hQ79
      have N79 := Fr.app N78 N79q
      obtain ⟨cq80, kq80, q80a, q80b, q80c⟩ := isOf hZ e79 E78o
      obtain ⟨_, _, ⟨T80, L80, k80, n80⟩, -, X80, ⟨Lc80, hQ80, l80, y80, z80⟩, st80⟩ := X79.virtualBack hx (y := (⟨"com/example/trusted_cut/trustedcut/program/Selections", "more", "()Lcom/example/trusted_cut/trustedcut/program/Choice;"⟩ : MethodName)) (z := (⟨"com/example/trusted_cut/trustedcut/program/Selections", "more", "()Lcom/example/trusted_cut/trustedcut/program/Choice;"⟩ : MethodName)) hown (mvT hZ (hw _ (List.mem_of_getElem? (i := 101) rfl))) (mvT hZ (hw _ (List.mem_of_getElem? (i := 102) rfl))) (notFace_of_selects (args := #[]) (mvT hZ (hw _ (List.mem_of_getElem? (i := 104) rfl)))) (mvT hZ (hw _ (List.mem_of_getElem? (i := 104) rfl))) (mvT hZ (hw _ (List.mem_of_getElem? (i := 103) rfl))) (by decide) (backOf (W := 0) (rmMO l Z a0 hw [] b2 T78.heap n0 Z78 F78_3) hZ (hw _ (List.mem_of_getElem? (i := 105) rfl)) (hw _ (List.mem_of_getElem? (i := 2) rfl)) (by decide) (by decide)) q80a q80c (g := (mkF m 165 #[.val (.int p0), .val (.int n), .val (.ref b2), .val (.ref b4), .val (.ref b11), .val (.ref b19), .val (.ref b28), .val (.ref b39), .val (.int (1 : Int32)), .val (.int (1 : Int32)), .unset] [(.ref b2)])) rfl (by rw [hml]; rfl) (Steps.refl _) (argsL := []) (rest := []) (lenOf pd_7 rfl) rfl (by show 2 * 0 + _ ≤ _; exact Nat.le_of_eq rfl) (hb hby at_165) (fun _ _ => ⟨rfl, e79, (by decide : 9 + 0 ≤ _), (by decide : 104 + 0 ≤ _)⟩)
      dsimp only [Pt.U, Pt.locs, Pt.cells, Pt.slots] at X80 l80 y80 z80 st80 hQ80
      subst l80 y80 z80
      obtain ⟨rfl, N80q, e80⟩ := hQ80
      have N80 := Fr.app N79 N80q
      obtain ⟨fs, hr, hrun, hended, hW, hsame⟩ := X80.leave (v := some (.int (1 : Int32))) (fun h => by rw [Bd.returns] at h; cases h)
      refine ⟨_, _, pre70 _ ?_, hrun, hended, _, _, rfl, ?_, ⟨_, rfl⟩, hW, hsame.mono (by decide) (by decide)⟩
      · show Steps p.tables e below (T63.setTop (mkF m 79 #[.val (.int p0), .val (.int n), .val (.ref b2), .val (.ref b4), .val (.ref b11), .val (.ref b19), .val (.ref b28), .val (.ref b39), .unset, .unset, .unset] [(.int (2 : Int32)), (.int n)])) _
        refine XS.icmpYes X63.here hx rfl (pc0 := 79) (pc' := 90) rfl (hb hby at_79) rfl (tlt (show n < (2 : Int32) from hc79)).1 (by decide) (by decide) ?_
        show Steps p.tables e below (T63.setTop (mkF m 90 #[.val (.int p0), .val (.int n), .val (.ref b2), .val (.ref b4), .val (.ref b11), .val (.ref b19), .val (.ref b28), .val (.ref b39), .unset, .unset, .unset] [])) _
        refine XS.iloadN X63.here hx rfl (hb hby at_90) rfl ?_
        show Steps p.tables e below (T63.setTop (mkF m 91 #[.val (.int p0), .val (.int n), .val (.ref b2), .val (.ref b4), .val (.ref b11), .val (.ref b19), .val (.ref b28), .val (.ref b39), .unset, .unset, .unset] [(.int n)])) _
        refine XS.iconst X63.here hx rfl (hb hby at_91) ?_
        show Steps p.tables e below (T63.setTop (mkF m 92 #[.val (.int p0), .val (.int n), .val (.ref b2), .val (.ref b4), .val (.ref b11), .val (.ref b19), .val (.ref b28), .val (.ref b39), .unset, .unset, .unset] [(.int (3 : Int32)), (.int n)])) _
        refine XS.icmpYes X63.here hx rfl (pc0 := 92) (pc' := 103) rfl (hb hby at_92) rfl (tlt (show n < (3 : Int32) from (own_lt hc79 (by decide)))).1 (by decide) (by decide) ?_
        show Steps p.tables e below (T63.setTop (mkF m 103 #[.val (.int p0), .val (.int n), .val (.ref b2), .val (.ref b4), .val (.ref b11), .val (.ref b19), .val (.ref b28), .val (.ref b39), .unset, .unset, .unset] [])) _
        refine XS.aloadN X63.here hx rfl (hb hby at_103) rfl rfl ?_
        show Steps p.tables e below (T63.setTop (mkF m 104 #[.val (.int p0), .val (.int n), .val (.ref b2), .val (.ref b4), .val (.ref b11), .val (.ref b19), .val (.ref b28), .val (.ref b39), .unset, .unset, .unset] [(.ref b2)])) _
        refine st71.trans ?_
        show Steps p.tables e below (T71.setTop (mkF m 107 #[.val (.int p0), .val (.int n), .val (.ref b2), .val (.ref b4), .val (.ref b11), .val (.ref b19), .val (.ref b28), .val (.ref b39), .unset, .unset, .unset] [])) _
        refine XS.aloadN X71.here hx rfl (hb hby at_107) rfl rfl ?_
        show Steps p.tables e below (T71.setTop (mkF m 108 #[.val (.int p0), .val (.int n), .val (.ref b2), .val (.ref b4), .val (.ref b11), .val (.ref b19), .val (.ref b28), .val (.ref b39), .unset, .unset, .unset] [(.ref b2)])) _
        refine st72.trans ?_
        show Steps p.tables e below (T72.setTop (mkF m 111 #[.val (.int p0), .val (.int n), .val (.ref b2), .val (.ref b4), .val (.ref b11), .val (.ref b19), .val (.ref b28), .val (.ref b39), .unset, .unset, .unset] [.null])) _
        refine XS.ifnonnullNo X72.here hx rfl (hb hby at_111) rfl ?_
        show Steps p.tables e below (T72.setTop (mkF m 114 #[.val (.int p0), .val (.int n), .val (.ref b2), .val (.ref b4), .val (.ref b11), .val (.ref b19), .val (.ref b28), .val (.ref b39), .unset, .unset, .unset] [])) _
        refine XS.aloadN X72.here hx rfl (hb hby at_114) rfl rfl ?_
        show Steps p.tables e below (T72.setTop (mkF m 115 #[.val (.int p0), .val (.int n), .val (.ref b2), .val (.ref b4), .val (.ref b11), .val (.ref b19), .val (.ref b28), .val (.ref b39), .unset, .unset, .unset] [(.ref b2)])) _
        refine st73.trans ?_
        show Steps p.tables e below (T73.setTop (mkF m 118 #[.val (.int p0), .val (.int n), .val (.ref b2), .val (.ref b4), .val (.ref b11), .val (.ref b19), .val (.ref b28), .val (.ref b39), .unset, .unset, .unset] [.null])) _
        refine XS.ifnonnullNo X73.here hx rfl (hb hby at_118) rfl ?_
        show Steps p.tables e below (T73.setTop (mkF m 121 #[.val (.int p0), .val (.int n), .val (.ref b2), .val (.ref b4), .val (.ref b11), .val (.ref b19), .val (.ref b28), .val (.ref b39), .unset, .unset, .unset] [])) _
        refine XS.iconst X73.here hx rfl (hb hby at_121) ?_
        show Steps p.tables e below (T73.setTop (mkF m 122 #[.val (.int p0), .val (.int n), .val (.ref b2), .val (.ref b4), .val (.ref b11), .val (.ref b19), .val (.ref b28), .val (.ref b39), .unset, .unset, .unset] [(.int (1 : Int32))])) _
        refine XS.goto X73.here hx rfl (pc0 := 122) (pc' := 126) rfl (hb hby at_122) (by decide) (by decide) ?_
        show Steps p.tables e below (T73.setTop (mkF m 126 #[.val (.int p0), .val (.int n), .val (.ref b2), .val (.ref b4), .val (.ref b11), .val (.ref b19), .val (.ref b28), .val (.ref b39), .unset, .unset, .unset] [(.int (1 : Int32))])) _
        refine XS.istore X73.here hx rfl (hb hby at_126) rfl (l' := #[.val (.int p0), .val (.int n), .val (.ref b2), .val (.ref b4), .val (.ref b11), .val (.ref b19), .val (.ref b28), .val (.ref b39), .val (.int (1 : Int32)), .unset, .unset]) rfl ?_
        show Steps p.tables e below (T73.setTop (mkF m 128 #[.val (.int p0), .val (.int n), .val (.ref b2), .val (.ref b4), .val (.ref b11), .val (.ref b19), .val (.ref b28), .val (.ref b39), .val (.int (1 : Int32)), .unset, .unset] [])) _
        refine XS.aloadN X73.here hx rfl (hb hby at_128) rfl rfl ?_
        show Steps p.tables e below (T73.setTop (mkF m 129 #[.val (.int p0), .val (.int n), .val (.ref b2), .val (.ref b4), .val (.ref b11), .val (.ref b19), .val (.ref b28), .val (.ref b39), .val (.int (1 : Int32)), .unset, .unset] [(.ref b2)])) _
        refine XS.aloadN X73.here hx rfl (hb hby at_129) rfl rfl ?_
        show Steps p.tables e below (T73.setTop (mkF m 130 #[.val (.int p0), .val (.int n), .val (.ref b2), .val (.ref b4), .val (.ref b11), .val (.ref b19), .val (.ref b28), .val (.ref b39), .val (.int (1 : Int32)), .unset, .unset] [(.ref b4), (.ref b2)])) _
        refine st74.trans ?_
        show Steps p.tables e below (T74.setTop (mkF m 133 #[.val (.int p0), .val (.int n), .val (.ref b2), .val (.ref b4), .val (.ref b11), .val (.ref b19), .val (.ref b28), .val (.ref b39), .val (.int (1 : Int32)), .unset, .unset] [])) _
        refine XS.aloadN X74.here hx rfl (hb hby at_133) rfl rfl ?_
        show Steps p.tables e below (T74.setTop (mkF m 134 #[.val (.int p0), .val (.int n), .val (.ref b2), .val (.ref b4), .val (.ref b11), .val (.ref b19), .val (.ref b28), .val (.ref b39), .val (.int (1 : Int32)), .unset, .unset] [(.ref b4)])) _
        refine st75.trans ?_
        show Steps p.tables e below (T75.setTop (mkF m 137 #[.val (.int p0), .val (.int n), .val (.ref b2), .val (.ref b4), .val (.ref b11), .val (.ref b19), .val (.ref b28), .val (.ref b39), .val (.int (1 : Int32)), .unset, .unset] [(.int (0 : Int32))])) _
        refine XS.ifNo X75.here hx rfl (hb hby at_137) rfl ((if0 _ _).trans (teq (show (0 : Int32) = (0 : Int32) from (by decide))).2) ?_
        show Steps p.tables e below (T75.setTop (mkF m 140 #[.val (.int p0), .val (.int n), .val (.ref b2), .val (.ref b4), .val (.ref b11), .val (.ref b19), .val (.ref b28), .val (.ref b39), .val (.int (1 : Int32)), .unset, .unset] [])) _
        refine XS.iconst X75.here hx rfl (hb hby at_140) ?_
        show Steps p.tables e below (T75.setTop (mkF m 141 #[.val (.int p0), .val (.int n), .val (.ref b2), .val (.ref b4), .val (.ref b11), .val (.ref b19), .val (.ref b28), .val (.ref b39), .val (.int (1 : Int32)), .unset, .unset] [(.int (1 : Int32))])) _
        refine XS.goto X75.here hx rfl (pc0 := 141) (pc' := 145) rfl (hb hby at_141) (by decide) (by decide) ?_
        show Steps p.tables e below (T75.setTop (mkF m 145 #[.val (.int p0), .val (.int n), .val (.ref b2), .val (.ref b4), .val (.ref b11), .val (.ref b19), .val (.ref b28), .val (.ref b39), .val (.int (1 : Int32)), .unset, .unset] [(.int (1 : Int32))])) _
        refine XS.istore X75.here hx rfl (hb hby at_145) rfl (l' := #[.val (.int p0), .val (.int n), .val (.ref b2), .val (.ref b4), .val (.ref b11), .val (.ref b19), .val (.ref b28), .val (.ref b39), .val (.int (1 : Int32)), .val (.int (1 : Int32)), .unset]) rfl ?_
        show Steps p.tables e below (T75.setTop (mkF m 147 #[.val (.int p0), .val (.int n), .val (.ref b2), .val (.ref b4), .val (.ref b11), .val (.ref b19), .val (.ref b28), .val (.ref b39), .val (.int (1 : Int32)), .val (.int (1 : Int32)), .unset] [])) _
        refine XS.aloadN X75.here hx rfl (hb hby at_147) rfl rfl ?_
        show Steps p.tables e below (T75.setTop (mkF m 148 #[.val (.int p0), .val (.int n), .val (.ref b2), .val (.ref b4), .val (.ref b11), .val (.ref b19), .val (.ref b28), .val (.ref b39), .val (.int (1 : Int32)), .val (.int (1 : Int32)), .unset] [(.ref b2)])) _
        refine XS.aload X75.here hx rfl (hb hby at_148) rfl rfl ?_
        show Steps p.tables e below (T75.setTop (mkF m 150 #[.val (.int p0), .val (.int n), .val (.ref b2), .val (.ref b4), .val (.ref b11), .val (.ref b19), .val (.ref b28), .val (.ref b39), .val (.int (1 : Int32)), .val (.int (1 : Int32)), .unset] [(.ref b39), (.ref b2)])) _
        refine XS.aload X75.here hx rfl (hb hby at_150) rfl rfl ?_
        show Steps p.tables e below (T75.setTop (mkF m 152 #[.val (.int p0), .val (.int n), .val (.ref b2), .val (.ref b4), .val (.ref b11), .val (.ref b19), .val (.ref b28), .val (.ref b39), .val (.int (1 : Int32)), .val (.int (1 : Int32)), .unset] [(.ref b19), (.ref b39), (.ref b2)])) _
        refine st78.trans ?_
        show Steps p.tables e below (T78.setTop (mkF m 155 #[.val (.int p0), .val (.int n), .val (.ref b2), .val (.ref b4), .val (.ref b11), .val (.ref b19), .val (.ref b28), .val (.ref b39), .val (.int (1 : Int32)), .val (.int (1 : Int32)), .unset] [])) _
        refine XS.aloadN X78.here hx rfl (hb hby at_155) rfl rfl ?_
        show Steps p.tables e below (T78.setTop (mkF m 156 #[.val (.int p0), .val (.int n), .val (.ref b2), .val (.ref b4), .val (.ref b11), .val (.ref b19), .val (.ref b28), .val (.ref b39), .val (.int (1 : Int32)), .val (.int (1 : Int32)), .unset] [(.ref b2)])) _
        refine st79.trans ?_
        show Steps p.tables e below (T79.setTop (mkF m 159 #[.val (.int p0), .val (.int n), .val (.ref b2), .val (.ref b4), .val (.ref b11), .val (.ref b19), .val (.ref b28), .val (.ref b39), .val (.int (1 : Int32)), .val (.int (1 : Int32)), .unset] [(.ref b19)])) _
        refine XS.aload X79.here hx rfl (hb hby at_159) rfl rfl ?_
        show Steps p.tables e below (T79.setTop (mkF m 161 #[.val (.int p0), .val (.int n), .val (.ref b2), .val (.ref b4), .val (.ref b11), .val (.ref b19), .val (.ref b28), .val (.ref b39), .val (.int (1 : Int32)), .val (.int (1 : Int32)), .unset] [(.ref b19), (.ref b19)])) _
        refine Jvm.RoadKit.acmp (g := (mkF m 161 #[.val (.int p0), .val (.int n), .val (.ref b2), .val (.ref b4), .val (.ref b11), .val (.ref b19), .val (.ref b28), .val (.ref b39), .val (.int (1 : Int32)), .val (.int (1 : Int32)), .unset] [(.ref b19), (.ref b19)])) X79 hx rfl rfl rfl (pc0 := 161) (pc' := 164) (same := true) rfl (hb hby at_161) rfl (decide_eq_true rfl) (by decide) (by decide) ?_
        show Steps p.tables e below (T79.setTop (mkF m 164 #[.val (.int p0), .val (.int n), .val (.ref b2), .val (.ref b4), .val (.ref b11), .val (.ref b19), .val (.ref b28), .val (.ref b39), .val (.int (1 : Int32)), .val (.int (1 : Int32)), .unset] [])) _
        refine XS.aloadN X79.here hx rfl (hb hby at_164) rfl rfl ?_
        show Steps p.tables e below (T79.setTop (mkF m 165 #[.val (.int p0), .val (.int n), .val (.ref b2), .val (.ref b4), .val (.ref b11), .val (.ref b19), .val (.ref b28), .val (.ref b39), .val (.int (1 : Int32)), .val (.int (1 : Int32)), .unset] [(.ref b2)])) _
        refine st80.trans ?_
        show Steps p.tables e below (T80.setTop (mkF m 168 #[.val (.int p0), .val (.int n), .val (.ref b2), .val (.ref b4), .val (.ref b11), .val (.ref b19), .val (.ref b28), .val (.ref b39), .val (.int (1 : Int32)), .val (.int (1 : Int32)), .unset] [.null])) _
        refine XS.ifnonnullNo X80.here hx rfl (hb hby at_168) rfl ?_
        show Steps p.tables e below (T80.setTop (mkF m 171 #[.val (.int p0), .val (.int n), .val (.ref b2), .val (.ref b4), .val (.ref b11), .val (.ref b19), .val (.ref b28), .val (.ref b39), .val (.int (1 : Int32)), .val (.int (1 : Int32)), .unset] [])) _
        refine XS.iconst X80.here hx rfl (hb hby at_171) ?_
        show Steps p.tables e below (T80.setTop (mkF m 172 #[.val (.int p0), .val (.int n), .val (.ref b2), .val (.ref b4), .val (.ref b11), .val (.ref b19), .val (.ref b28), .val (.ref b39), .val (.int (1 : Int32)), .val (.int (1 : Int32)), .unset] [(.int (1 : Int32))])) _
        refine XS.goto X80.here hx rfl (pc0 := 172) (pc' := 176) rfl (hb hby at_172) (by decide) (by decide) ?_
        show Steps p.tables e below (T80.setTop (mkF m 176 #[.val (.int p0), .val (.int n), .val (.ref b2), .val (.ref b4), .val (.ref b11), .val (.ref b19), .val (.ref b28), .val (.ref b39), .val (.int (1 : Int32)), .val (.int (1 : Int32)), .unset] [(.int (1 : Int32))])) _
        refine XS.istore X80.here hx rfl (hb hby at_176) rfl (l' := #[.val (.int p0), .val (.int n), .val (.ref b2), .val (.ref b4), .val (.ref b11), .val (.ref b19), .val (.ref b28), .val (.ref b39), .val (.int (1 : Int32)), .val (.int (1 : Int32)), .val (.int (1 : Int32))]) rfl ?_
        show Steps p.tables e below (T80.setTop (mkF m 178 #[.val (.int p0), .val (.int n), .val (.ref b2), .val (.ref b4), .val (.ref b11), .val (.ref b19), .val (.ref b28), .val (.ref b39), .val (.int (1 : Int32)), .val (.int (1 : Int32)), .val (.int (1 : Int32))] [])) _
        refine XS.iload X80.here hx rfl (hb hby at_178) rfl ?_
        show Steps p.tables e below (T80.setTop (mkF m 180 #[.val (.int p0), .val (.int n), .val (.ref b2), .val (.ref b4), .val (.ref b11), .val (.ref b19), .val (.ref b28), .val (.ref b39), .val (.int (1 : Int32)), .val (.int (1 : Int32)), .val (.int (1 : Int32))] [(.int (1 : Int32))])) _
        refine XS.ifNo X80.here hx rfl (hb hby at_180) rfl ((if0 _ _).trans (feq (show ¬ ((1 : Int32) = (0 : Int32)) from (by decide))).1) ?_
        show Steps p.tables e below (T80.setTop (mkF m 183 #[.val (.int p0), .val (.int n), .val (.ref b2), .val (.ref b4), .val (.ref b11), .val (.ref b19), .val (.ref b28), .val (.ref b39), .val (.int (1 : Int32)), .val (.int (1 : Int32)), .val (.int (1 : Int32))] [])) _
        refine XS.iload X80.here hx rfl (hb hby at_183) rfl ?_
        show Steps p.tables e below (T80.setTop (mkF m 185 #[.val (.int p0), .val (.int n), .val (.ref b2), .val (.ref b4), .val (.ref b11), .val (.ref b19), .val (.ref b28), .val (.ref b39), .val (.int (1 : Int32)), .val (.int (1 : Int32)), .val (.int (1 : Int32))] [(.int (1 : Int32))])) _
        refine XS.ifNo X80.here hx rfl (hb hby at_185) rfl ((if0 _ _).trans (feq (show ¬ ((1 : Int32) = (0 : Int32)) from (by decide))).1) ?_
        show Steps p.tables e below (T80.setTop (mkF m 188 #[.val (.int p0), .val (.int n), .val (.ref b2), .val (.ref b4), .val (.ref b11), .val (.ref b19), .val (.ref b28), .val (.ref b39), .val (.int (1 : Int32)), .val (.int (1 : Int32)), .val (.int (1 : Int32))] [])) _
        refine XS.iload X80.here hx rfl (hb hby at_188) rfl ?_
        show Steps p.tables e below (T80.setTop (mkF m 190 #[.val (.int p0), .val (.int n), .val (.ref b2), .val (.ref b4), .val (.ref b11), .val (.ref b19), .val (.ref b28), .val (.ref b39), .val (.int (1 : Int32)), .val (.int (1 : Int32)), .val (.int (1 : Int32))] [(.int (1 : Int32))])) _
        refine XS.ifNo X80.here hx rfl (hb hby at_190) rfl ((if0 _ _).trans (feq (show ¬ ((1 : Int32) = (0 : Int32)) from (by decide))).1) ?_
        show Steps p.tables e below (T80.setTop (mkF m 193 #[.val (.int p0), .val (.int n), .val (.ref b2), .val (.ref b4), .val (.ref b11), .val (.ref b19), .val (.ref b28), .val (.ref b39), .val (.int (1 : Int32)), .val (.int (1 : Int32)), .val (.int (1 : Int32))] [])) _
        refine XS.iconst X80.here hx rfl (hb hby at_193) ?_
        show Steps p.tables e below (T80.setTop (mkF m 194 #[.val (.int p0), .val (.int n), .val (.ref b2), .val (.ref b4), .val (.ref b11), .val (.ref b19), .val (.ref b28), .val (.ref b39), .val (.int (1 : Int32)), .val (.int (1 : Int32)), .val (.int (1 : Int32))] [(.int (1 : Int32))])) _
        refine XS.goto X80.here hx rfl (pc0 := 194) (pc' := 198) rfl (hb hby at_194) (by decide) (by decide) ?_
        show Steps p.tables e below (T80.setTop (mkF m 198 #[.val (.int p0), .val (.int n), .val (.ref b2), .val (.ref b4), .val (.ref b11), .val (.ref b19), .val (.ref b28), .val (.ref b39), .val (.int (1 : Int32)), .val (.int (1 : Int32)), .val (.int (1 : Int32))] [(.int (1 : Int32))])) _
        exact retN X80 hx (t := .boolean) Bd.returns (by simp) (hb hby at_198) hr
      · show Q0 h0 n0 _ T80.heap _
        rw [e80]
        exact ⟨rfl, N80⟩
    · obtain ⟨cq81, kq81, q81a, q81b, q81c⟩ := isOf hZ rfl E63o
      obtain ⟨_, _, ⟨T81, L81, k81, n81⟩, -, X81, ⟨Lc81, hQ81, l81, y81, z81⟩, st81⟩ := X63.virtualBack hx (y := (⟨"com/example/trusted_cut/trustedcut/program/Selections", "add", "(Lcom/example/trusted_cut/trustedcut/program/Unifier;Ljava/util/List;)V"⟩ : MethodName)) (z := (⟨"com/example/trusted_cut/trustedcut/program/Selections", "add", "(Lcom/example/trusted_cut/trustedcut/program/Unifier;Ljava/util/List;)V"⟩ : MethodName)) hown (mvT hZ (hw _ (List.mem_of_getElem? (i := 118) rfl))) (mvT hZ (hw _ (List.mem_of_getElem? (i := 119) rfl))) (notFace_of_selects (args := #[]) (mvT hZ (hw _ (List.mem_of_getElem? (i := 121) rfl)))) (mvT hZ (hw _ (List.mem_of_getElem? (i := 121) rfl))) (mvT hZ (hw _ (List.mem_of_getElem? (i := 120) rfl))) (by decide) (backOf (W := 0) (rmA1 l Z a0 hw [] b2 b39 b11 b28 b11 T63.heap n0 Z63 E63o F63_0 F63_1 F63_2 F63_3 F63_4 g_b2) hZ (hw _ (List.mem_of_getElem? (i := 122) rfl)) (hw _ (List.mem_of_getElem? (i := 2) rfl)) (by decide) (by decide)) q81a q81c (g := (mkF m 87 #[.val (.int p0), .val (.int n), .val (.ref b2), .val (.ref b4), .val (.ref b11), .val (.ref b19), .val (.ref b28), .val (.ref b39), .unset, .unset, .unset] [(.ref b11), (.ref b39), (.ref b2)])) rfl (by rw [hml]; rfl) (Steps.refl _) (argsL := [(.ref b39), (.ref b11)]) (rest := []) (lenOf pd_10 rfl) rfl (by show 2 * 0 + _ ≤ _; exact Nat.le_of_eq rfl) (hb hby at_87) (fun _ _ => ⟨rfl, rfl, (by decide : 9 + 1 ≤ _), (by decide : 104 + 4 ≤ _)⟩)
      dsimp only [Pt.U, Pt.locs, Pt.cells, Pt.slots] at X81 l81 y81 z81 st81 hQ81
      subst l81 y81 z81
      have f82 := (((f36.ext E39).keep K42).keep K63)
      have f83 := (((f37.ext E39).keep K42).keep K63)
      have f84 := (((f38.ext E39).keep K42).keep K63)
      have f85 := (((E31o.ext E39).keep K42).keep K63)
      have f86 := (E42o.keep K63)
      obtain ⟨c81, rfl, N81q, K81, ge81, E81o, F81_0, F81_1, F81_2, F81_3, F81_4, Ec81, Fcu81, Fcn81⟩ := hQ81
      have g_c81 : n0 ≤ c81 := Nat.le_trans Z63 ge81
      have sz_c81 : h0.size ≤ c81 := Nat.le_trans KK63.1 ge81
      have ne_b2_c81 : b2 ≠ c81 := Nat.ne_of_lt (Nat.lt_of_lt_of_le E63o.lt ge81)
      have ne_b4_c81 : b4 ≠ c81 := Nat.ne_of_lt (Nat.lt_of_lt_of_le f82.lt ge81)
      have ne_b11_c81 : b11 ≠ c81 := Nat.ne_of_lt (Nat.lt_of_lt_of_le f83.lt ge81)
      have ne_b19_c81 : b19 ≠ c81 := Nat.ne_of_lt (Nat.lt_of_lt_of_le f84.lt ge81)
      have ne_b28_c81 : b28 ≠ c81 := Nat.ne_of_lt (Nat.lt_of_lt_of_le f85.lt ge81)
      have ne_b39_c81 : b39 ≠ c81 := Nat.ne_of_lt (Nat.lt_of_lt_of_le f86.lt ge81)
      have KK81 : Keep h0 T81.heap [] := Keep.trans KK63 K81 (own_side1 (Or.inr sz_b2))
      have Z81 : n0 ≤ T81.heap.size := Nat.le_trans Z0 KK81.1
      have N81 := Fr.app N63 N81q
      have pre87 : ∀ t, Steps p.tables e below (T81.setTop (mkF m 92 #[.val (.int p0), .val (.int n), .val (.ref b2), .val (.ref b4), .val (.ref b11), .val (.ref b19), .val (.ref b28), .val (.ref b39), .unset, .unset, .unset] [(.int (3 : Int32)), (.int n)])) t → Steps p.tables e below (s₁.setTop (entryFrame m #[(.int p0)] maxLocals)) t := fun t kt => pre70 t (by
          show Steps p.tables e below (T63.setTop (mkF m 79 #[.val (.int p0), .val (.int n), .val (.ref b2), .val (.ref b4), .val (.ref b11), .val (.ref b19), .val (.ref b28), .val (.ref b39), .unset, .unset, .unset] [(.int (2 : Int32)), (.int n)])) _
          refine XS.icmpNo X63.here hx rfl (hb hby at_79) rfl (flt (show ¬ (n < (2 : Int32)) from hc79)).1 ?_
          show Steps p.tables e below (T63.setTop (mkF m 82 #[.val (.int p0), .val (.int n), .val (.ref b2), .val (.ref b4), .val (.ref b11), .val (.ref b19), .val (.ref b28), .val (.ref b39), .unset, .unset, .unset] [])) _
          refine XS.aloadN X63.here hx rfl (hb hby at_82) rfl rfl ?_
          show Steps p.tables e below (T63.setTop (mkF m 83 #[.val (.int p0), .val (.int n), .val (.ref b2), .val (.ref b4), .val (.ref b11), .val (.ref b19), .val (.ref b28), .val (.ref b39), .unset, .unset, .unset] [(.ref b2)])) _
          refine XS.aload X63.here hx rfl (hb hby at_83) rfl rfl ?_
          show Steps p.tables e below (T63.setTop (mkF m 85 #[.val (.int p0), .val (.int n), .val (.ref b2), .val (.ref b4), .val (.ref b11), .val (.ref b19), .val (.ref b28), .val (.ref b39), .unset, .unset, .unset] [(.ref b39), (.ref b2)])) _
          refine XS.aload X63.here hx rfl (hb hby at_85) rfl rfl ?_
          show Steps p.tables e below (T63.setTop (mkF m 87 #[.val (.int p0), .val (.int n), .val (.ref b2), .val (.ref b4), .val (.ref b11), .val (.ref b19), .val (.ref b28), .val (.ref b39), .unset, .unset, .unset] [(.ref b11), (.ref b39), (.ref b2)])) _
          refine st81.trans ?_
          show Steps p.tables e below (T81.setTop (mkF m 90 #[.val (.int p0), .val (.int n), .val (.ref b2), .val (.ref b4), .val (.ref b11), .val (.ref b19), .val (.ref b28), .val (.ref b39), .unset, .unset, .unset] [])) _
          refine XS.iloadN X81.here hx rfl (hb hby at_90) rfl ?_
          show Steps p.tables e below (T81.setTop (mkF m 91 #[.val (.int p0), .val (.int n), .val (.ref b2), .val (.ref b4), .val (.ref b11), .val (.ref b19), .val (.ref b28), .val (.ref b39), .unset, .unset, .unset] [(.int n)])) _
          refine XS.iconst X81.here hx rfl (hb hby at_91) ?_
          exact kt)
      by_cases hc92 : n < (3 : Int32)
      · obtain ⟨cq88, kq88, q88a, q88b, q88c⟩ := isOf hZ rfl E81o
        obtain ⟨_, _, ⟨T88, L88, k88, n88⟩, -, X88, ⟨Lc88, hQ88, l88, y88, z88⟩, st88⟩ := X81.virtualBack hx (y := (⟨"com/example/trusted_cut/trustedcut/program/Selections", "clear", "()V"⟩ : MethodName)) (z := (⟨"com/example/trusted_cut/trustedcut/program/Selections", "clear", "()V"⟩ : MethodName)) hown (mvT hZ (hw _ (List.mem_of_getElem? (i := 81) rfl))) (mvT hZ (hw _ (List.mem_of_getElem? (i := 82) rfl))) (notFace_of_selects (args := #[]) (mvT hZ (hw _ (List.mem_of_getElem? (i := 84) rfl)))) (mvT hZ (hw _ (List.mem_of_getElem? (i := 84) rfl))) (mvT hZ (hw _ (List.mem_of_getElem? (i := 83) rfl))) (by decide) (backOf (W := 0) (rmCL l Z a0 hw [] b2 (.int (2 : Int32)) (.ref b28) (.ref b11) (.ref c81) (.ref c81) T81.heap n0 Z81 E81o F81_0 F81_1 F81_2 F81_3 F81_4 g_b2) hZ (hw _ (List.mem_of_getElem? (i := 85) rfl)) (hw _ (List.mem_of_getElem? (i := 2) rfl)) (by decide) (by decide)) q88a q88c (g := (mkF m 104 #[.val (.int p0), .val (.int n), .val (.ref b2), .val (.ref b4), .val (.ref b11), .val (.ref b19), .val (.ref b28), .val (.ref b39), .unset, .unset, .unset] [(.ref b2)])) rfl (by rw [hml]; rfl) (Steps.refl _) (argsL := []) (rest := []) (lenOf pd_0 rfl) rfl (by show 2 * 0 + _ ≤ _; exact Nat.le_of_eq rfl) (hb hby at_104) (fun _ _ => ⟨rfl, rfl, (by decide : 10 + 0 ≤ _), (by decide : 108 + 0 ≤ _)⟩)
        dsimp only [Pt.U, Pt.locs, Pt.cells, Pt.slots] at X88 l88 y88 z88 st88 hQ88
        subst l88 y88 z88
        obtain ⟨rfl, N88q, K88, E88o, F88_0, F88_1, F88_2, F88_3, F88_4⟩ := hQ88
        have KK88 : Keep h0 T88.heap [] := Keep.trans KK81 K88 (own_side1 (Or.inr sz_b2))
        have Z88 : n0 ≤ T88.heap.size := Nat.le_trans Z0 KK88.1
        have N88 := Fr.app N81 N88q
        obtain ⟨cq89, kq89, q89a, q89b, q89c⟩ := isOf hZ rfl E88o
        obtain ⟨_, _, ⟨T89, L89, k89, n89⟩, -, X89, ⟨Lc89, hQ89, l89, y89, z89⟩, st89⟩ := X88.virtualBack hx (y := (⟨"com/example/trusted_cut/trustedcut/program/Selections", "goals", "()Ljava/util/List;"⟩ : MethodName)) (z := (⟨"com/example/trusted_cut/trustedcut/program/Selections", "goals", "()Ljava/util/List;"⟩ : MethodName)) hown (mvT hZ (hw _ (List.mem_of_getElem? (i := 96) rfl))) (mvT hZ (hw _ (List.mem_of_getElem? (i := 97) rfl))) (notFace_of_selects (args := #[]) (mvT hZ (hw _ (List.mem_of_getElem? (i := 99) rfl)))) (mvT hZ (hw _ (List.mem_of_getElem? (i := 99) rfl))) (mvT hZ (hw _ (List.mem_of_getElem? (i := 98) rfl))) (by decide) (backOf (W := 0) (rmG0 l Z a0 hw [] b2 T88.heap n0 Z88 F88_0) hZ (hw _ (List.mem_of_getElem? (i := 100) rfl)) (hw _ (List.mem_of_getElem? (i := 2) rfl)) (by decide) (by decide)) q89a q89c (g := (mkF m 108 #[.val (.int p0), .val (.int n), .val (.ref b2), .val (.ref b4), .val (.ref b11), .val (.ref b19), .val (.ref b28), .val (.ref b39), .unset, .unset, .unset] [(.ref b2)])) rfl (by rw [hml]; rfl) (Steps.refl _) (argsL := []) (rest := []) (lenOf pd_6 rfl) rfl (by show 2 * 0 + _ ≤ _; exact Nat.le_of_eq rfl) (hb hby at_108) (fun _ _ => ⟨rfl, rfl, (by decide : 10 + 0 ≤ _), (by decide : 108 + 0 ≤ _)⟩)
        dsimp only [Pt.U, Pt.locs, Pt.cells, Pt.slots] at X89 l89 y89 z89 st89 hQ89
        subst l89 y89 z89
        obtain ⟨rfl, N89q, e89⟩ := hQ89
        have N89 := Fr.app N88 N89q
        obtain ⟨cq90, kq90, q90a, q90b, q90c⟩ := isOf hZ e89 E88o
        obtain ⟨_, _, ⟨T90, L90, k90, n90⟩, -, X90, ⟨Lc90, hQ90, l90, y90, z90⟩, st90⟩ := X89.virtualBack hx (y := (⟨"com/example/trusted_cut/trustedcut/program/Selections", "more", "()Lcom/example/trusted_cut/trustedcut/program/Choice;"⟩ : MethodName)) (z := (⟨"com/example/trusted_cut/trustedcut/program/Selections", "more", "()Lcom/example/trusted_cut/trustedcut/program/Choice;"⟩ : MethodName)) hown (mvT hZ (hw _ (List.mem_of_getElem? (i := 101) rfl))) (mvT hZ (hw _ (List.mem_of_getElem? (i := 102) rfl))) (notFace_of_selects (args := #[]) (mvT hZ (hw _ (List.mem_of_getElem? (i := 104) rfl)))) (mvT hZ (hw _ (List.mem_of_getElem? (i := 104) rfl))) (mvT hZ (hw _ (List.mem_of_getElem? (i := 103) rfl))) (by decide) (backOf (W := 0) (rmMO l Z a0 hw [] b2 T88.heap n0 Z88 F88_3) hZ (hw _ (List.mem_of_getElem? (i := 105) rfl)) (hw _ (List.mem_of_getElem? (i := 2) rfl)) (by decide) (by decide)) q90a q90c (g := (mkF m 115 #[.val (.int p0), .val (.int n), .val (.ref b2), .val (.ref b4), .val (.ref b11), .val (.ref b19), .val (.ref b28), .val (.ref b39), .unset, .unset, .unset] [(.ref b2)])) rfl (by rw [hml]; rfl) (Steps.refl _) (argsL := []) (rest := []) (lenOf pd_7 rfl) rfl (by show 2 * 0 + _ ≤ _; exact Nat.le_of_eq rfl) (hb hby at_115) (fun _ _ => ⟨rfl, e89, (by decide : 10 + 0 ≤ _), (by decide : 108 + 0 ≤ _)⟩)
        dsimp only [Pt.U, Pt.locs, Pt.cells, Pt.slots] at X90 l90 y90 z90 st90 hQ90
        subst l90 y90 z90
        obtain ⟨rfl, N90q, e90⟩ := hQ90
        have N90 := Fr.app N89 N90q
        obtain ⟨cq91, kq91, q91a, q91b, q91c⟩ := isOf hZ e90 E88o
        obtain ⟨_, _, ⟨T91, L91, k91, n91⟩, -, X91, ⟨Lc91, hQ91, l91, y91, z91⟩, st91⟩ := X90.virtualBack hx (y := (⟨"com/example/trusted_cut/trustedcut/program/Selections", "enterFirst", "(Lcom/example/trusted_cut/trustedcut/program/Bindings;)V"⟩ : MethodName)) (z := (⟨"com/example/trusted_cut/trustedcut/program/Selections", "enterFirst", "(Lcom/example/trusted_cut/trustedcut/program/Bindings;)V"⟩ : MethodName)) hown (mvT hZ (hw _ (List.mem_of_getElem? (i := 106) rfl))) (mvT hZ (hw _ (List.mem_of_getElem? (i := 107) rfl))) (notFace_of_selects (args := #[]) (mvT hZ (hw _ (List.mem_of_getElem? (i := 109) rfl)))) (mvT hZ (hw _ (List.mem_of_getElem? (i := 109) rfl))) (mvT hZ (hw _ (List.mem_of_getElem? (i := 108) rfl))) (by decide) (backOf (W := 0) (rmEF l Z a0 hw [] b2 b4 T88.heap n0 Z88 F88_1) hZ (hw _ (List.mem_of_getElem? (i := 110) rfl)) (hw _ (List.mem_of_getElem? (i := 2) rfl)) (by decide) (by decide)) q91a q91c (g := (mkF m 130 #[.val (.int p0), .val (.int n), .val (.ref b2), .val (.ref b4), .val (.ref b11), .val (.ref b19), .val (.ref b28), .val (.ref b39), .val (.int (1 : Int32)), .unset, .unset] [(.ref b4), (.ref b2)])) rfl (by rw [hml]; rfl) (Steps.refl _) (argsL := [(.ref b4)]) (rest := []) (lenOf pd_8 rfl) rfl (by show 2 * 0 + _ ≤ _; exact Nat.le_of_eq rfl) (hb hby at_130) (fun _ _ => ⟨rfl, e90, (by decide : 10 + 0 ≤ _), (by decide : 108 + 0 ≤ _)⟩)
        dsimp only [Pt.U, Pt.locs, Pt.cells, Pt.slots] at X91 l91 y91 z91 st91 hQ91
        subst l91 y91 z91
        obtain ⟨rfl, N91q, e91⟩ := hQ91
        have N91 := Fr.app N90 N91q
        have f93 := (((((((((((F5_0.ext E11).keep K12 (own_notin1 ne_b4_b11)).ext E19).keep K20 (own_notin1 ne_b4_b19)).ext E28).keep K31 (own_notin1 ne_b4_b28)).ext E39).keep K42 (own_notin1 ne_b4_b39)).keep K63 (own_notin1 (Ne.symm ne_b2_b4))).keep K81 (own_notin1 (Ne.symm ne_b2_b4))).keep K88 (own_notin1 (Ne.symm ne_b2_b4)))
        have f94 := ((f82.keep K81).keep K88)
        obtain ⟨cq92, kq92, q92a, q92b, q92c⟩ := isOf hZ e91 f94
        obtain ⟨_, _, ⟨T92, L92, k92, n92⟩, -, X92, ⟨Lc92, hQ92, l92, y92, z92⟩, st92⟩ := X91.virtualBack hx (y := (⟨"com/example/trusted_cut/trustedcut/program/Bindings", "mark", "()I"⟩ : MethodName)) (z := (⟨"com/example/trusted_cut/trustedcut/program/Bindings", "mark", "()I"⟩ : MethodName)) hown (mvT hZ (hw _ (List.mem_of_getElem? (i := 111) rfl))) (mvT hZ (hw _ (List.mem_of_getElem? (i := 112) rfl))) (notFace_of_selects (args := #[]) (mvT hZ (hw _ (List.mem_of_getElem? (i := 114) rfl)))) (mvT hZ (hw _ (List.mem_of_getElem? (i := 114) rfl))) (mvT hZ (hw _ (List.mem_of_getElem? (i := 113) rfl))) (by decide) (backOf (W := 0) (rmMK l Z a0 hw [] b4 T88.heap n0 Z88 f93) hZ (hw _ (List.mem_of_getElem? (i := 115) rfl)) (hw _ (List.mem_of_getElem? (i := 11) rfl)) (by decide) (by decide)) q92a q92c (g := (mkF m 134 #[.val (.int p0), .val (.int n), .val (.ref b2), .val (.ref b4), .val (.ref b11), .val (.ref b19), .val (.ref b28), .val (.ref b39), .val (.int (1 : Int32)), .unset, .unset] [(.ref b4)])) rfl (by rw [hml]; rfl) (Steps.refl _) (argsL := []) (rest := []) (lenOf pd_9 rfl) rfl (by show 2 * 0 + _ ≤ _; exact Nat.le_of_eq rfl) (hb hby at_134) (fun _ _ => ⟨rfl, e91, (by decide : 10 + 0 ≤ _), (by decide : 108 + 0 ≤ _)⟩)
        dsimp only [Pt.U, Pt.locs, Pt.cells, Pt.slots] at X92 l92 y92 z92 st92 hQ92
        subst l92 y92 z92
        obtain ⟨rfl, N92q, e92⟩ := hQ92
        have N92 := Fr.app N91 N92q
        obtain ⟨cq95, kq95, q95a, q95b, q95c⟩ := isOf hZ e92 E88o
        obtain ⟨_, _, ⟨T95, L95, k95, n95⟩, -, X95, ⟨Lc95, hQ95, l95, y95, z95⟩, st95⟩ := X92.virtualBack hx (y := (⟨"com/example/trusted_cut/trustedcut/program/Selections", "add", "(Lcom/example/trusted_cut/trustedcut/program/Unifier;Ljava/util/List;)V"⟩ : MethodName)) (z := (⟨"com/example/trusted_cut/trustedcut/program/Selections", "add", "(Lcom/example/trusted_cut/trustedcut/program/Unifier;Ljava/util/List;)V"⟩ : MethodName)) hown (mvT hZ (hw _ (List.mem_of_getElem? (i := 118) rfl))) (mvT hZ (hw _ (List.mem_of_getElem? (i := 119) rfl))) (notFace_of_selects (args := #[]) (mvT hZ (hw _ (List.mem_of_getElem? (i := 121) rfl)))) (mvT hZ (hw _ (List.mem_of_getElem? (i := 121) rfl))) (mvT hZ (hw _ (List.mem_of_getElem? (i := 120) rfl))) (by decide) (backOf (W := 0) (rmA0 l Z a0 hw [] b2 b39 b19 T88.heap n0 Z88 E88o F88_0 F88_1 F88_2 F88_3 F88_4 g_b2) hZ (hw _ (List.mem_of_getElem? (i := 122) rfl)) (hw _ (List.mem_of_getElem? (i := 2) rfl)) (by decide) (by decide)) q95a q95c (g := (mkF m 152 #[.val (.int p0), .val (.int n), .val (.ref b2), .val (.ref b4), .val (.ref b11), .val (.ref b19), .val (.ref b28), .val (.ref b39), .val (.int (1 : Int32)), .val (.int (1 : Int32)), .unset] [(.ref b19), (.ref b39), (.ref b2)])) rfl (by rw [hml]; rfl) (Steps.refl _) (argsL := [(.ref b39), (.ref b19)]) (rest := []) (lenOf pd_10 rfl) rfl (by show 2 * 0 + _ ≤ _; exact Nat.le_of_eq rfl) (hb hby at_152) (fun _ _ => ⟨rfl, e92, (by decide : 10 + 0 ≤ _), (by decide : 108 + 0 ≤ _)⟩)
        dsimp only [Pt.U, Pt.locs, Pt.cells, Pt.slots] at X95 l95 y95 z95 st95 hQ95
        subst l95 y95 z95
        obtain ⟨rfl, N95q, K95, E95o, F95_0, F95_1, F95_2, F95_3, F95_4⟩ := hQ95
        have KK95 : Keep h0 T95.heap [] := Keep.trans KK88 K95 (own_side1 (Or.inr sz_b2))
        have Z95 : n0 ≤ T95.heap.size := Nat.le_trans Z0 KK95.1
        have N95 := Fr.app N92 N95q
        obtain ⟨cq96, kq96, q96a, q96b, q96c⟩ := isOf hZ rfl E95o
        obtain ⟨_, _, ⟨T96, L96, k96, n96⟩, -, X96, ⟨Lc96, hQ96, l96, y96, z96⟩, st96⟩ := X95.virtualBack hx (y := (⟨"com/example/trusted_cut/trustedcut/program/Selections", "goals", "()Ljava/util/List;"⟩ : MethodName)) (z := (⟨"com/example/trusted_cut/trustedcut/program/Selections", "goals", "()Ljava/util/List;"⟩ : MethodName)) hown (mvT hZ (hw _ (List.mem_of_getElem? (i := 96) rfl))) (mvT hZ (hw _ (List.mem_of_getElem? (i := 97) rfl))) (notFace_of_selects (args := #[]) (mvT hZ (hw _ (List.mem_of_getElem? (i := 99) rfl)))) (mvT hZ (hw _ (List.mem_of_getElem? (i := 99) rfl))) (mvT hZ (hw _ (List.mem_of_getElem? (i := 98) rfl))) (by decide) (backOf (W := 0) (rmG1 l Z a0 hw [] b2 b19 T95.heap n0 Z95 F95_0 F95_2) hZ (hw _ (List.mem_of_getElem? (i := 100) rfl)) (hw _ (List.mem_of_getElem? (i := 2) rfl)) (by decide) (by decide)) q96a q96c (g := (mkF m 156 #[.val (.int p0), .val (.int n), .val (.ref b2), .val (.ref b4), .val (.ref b11), .val (.ref b19), .val (.ref b28), .val (.ref b39), .val (.int (1 : Int32)), .val (.int (1 : Int32)), .unset] [(.ref b2)])) rfl (by rw [hml]; rfl) (Steps.refl _) (argsL := []) (rest := []) (lenOf pd_6 rfl) rfl (by show 2 * 0 + _ ≤ _; exact Nat.le_of_eq rfl) (hb hby at_156) (fun _ _ => ⟨rfl, rfl, (by decide : 10 + 0 ≤ _), (by decide : 108 + 0 ≤ _)⟩)
        dsimp only [Pt.U, Pt.locs, Pt.cells, Pt.slots] at X96 l96 y96 z96 st96 hQ96
        subst l96 y96 z96
        obtain ⟨rfl, N96q, e96⟩ := hQ96
        have N96 := Fr.app N95 N96q
        obtain ⟨cq97, kq97, q97a, q97b, q97c⟩ := isOf hZ e96 E95o
        obtain ⟨_, _, ⟨T97, L97, k97, n97⟩, -, X97, ⟨Lc97, hQ97, l97, y97, z97⟩, st97⟩ := X96.virtualBack hx (y := (⟨"com/example/trusted_cut/trustedcut/program/Selections", "more", "()Lcom/example/trusted_cut/trustedcut/program/Choice;"⟩ : MethodName)) (z := (⟨"com/example/trusted_cut/trustedcut/program/Selections", "more", "()Lcom/example/trusted_cut/trustedcut/program/Choice;"⟩ : MethodName)) hown (mvT hZ (hw _ (List.mem_of_getElem? (i := 101) rfl))) (mvT hZ (hw _ (List.mem_of_getElem? (i := 102) rfl))) (notFace_of_selects (args := #[]) (mvT hZ (hw _ (List.mem_of_getElem? (i := 104) rfl)))) (mvT hZ (hw _ (List.mem_of_getElem? (i := 104) rfl))) (mvT hZ (hw _ (List.mem_of_getElem? (i := 103) rfl))) (by decide) (backOf (W := 0) (rmMO l Z a0 hw [] b2 T95.heap n0 Z95 F95_3) hZ (hw _ (List.mem_of_getElem? (i := 105) rfl)) (hw _ (List.mem_of_getElem? (i := 2) rfl)) (by decide) (by decide)) q97a q97c (g := (mkF m 165 #[.val (.int p0), .val (.int n), .val (.ref b2), .val (.ref b4), .val (.ref b11), .val (.ref b19), .val (.ref b28), .val (.ref b39), .val (.int (1 : Int32)), .val (.int (1 : Int32)), .unset] [(.ref b2)])) rfl (by rw [hml]; rfl) (Steps.refl _) (argsL := []) (rest := []) (lenOf pd_7 rfl) rfl (by show 2 * 0 + _ ≤ _; exact Nat.le_of_eq rfl) (hb hby at_165) (fun _ _ => ⟨rfl, e96, (by decide : 10 + 0 ≤ _), (by decide : 108 + 0 ≤ _)⟩)
        dsimp only [Pt.U, Pt.locs, Pt.cells, Pt.slots] at X97 l97 y97 z97 st97 hQ97
        subst l97 y97 z97
        obtain ⟨rfl, N97q, e97⟩ := hQ97
        have N97 := Fr.app N96 N97q
        obtain ⟨fs, hr, hrun, hended, hW, hsame⟩ := X97.leave (v := some (.int (1 : Int32))) (fun h => by rw [Bd.returns] at h; cases h)
        refine ⟨_, _, pre87 _ ?_, hrun, hended, _, _, rfl, ?_, ⟨_, rfl⟩, hW, hsame.mono (by decide) (by decide)⟩
        · show Steps p.tables e below (T81.setTop (mkF m 92 #[.val (.int p0), .val (.int n), .val (.ref b2), .val (.ref b4), .val (.ref b11), .val (.ref b19), .val (.ref b28), .val (.ref b39), .unset, .unset, .unset] [(.int (3 : Int32)), (.int n)])) _
          refine XS.icmpYes X81.here hx rfl (pc0 := 92) (pc' := 103) rfl (hb hby at_92) rfl (tlt (show n < (3 : Int32) from hc92)).1 (by decide) (by decide) ?_
          show Steps p.tables e below (T81.setTop (mkF m 103 #[.val (.int p0), .val (.int n), .val (.ref b2), .val (.ref b4), .val (.ref b11), .val (.ref b19), .val (.ref b28), .val (.ref b39), .unset, .unset, .unset] [])) _
          refine XS.aloadN X81.here hx rfl (hb hby at_103) rfl rfl ?_
          show Steps p.tables e below (T81.setTop (mkF m 104 #[.val (.int p0), .val (.int n), .val (.ref b2), .val (.ref b4), .val (.ref b11), .val (.ref b19), .val (.ref b28), .val (.ref b39), .unset, .unset, .unset] [(.ref b2)])) _
          refine st88.trans ?_
          show Steps p.tables e below (T88.setTop (mkF m 107 #[.val (.int p0), .val (.int n), .val (.ref b2), .val (.ref b4), .val (.ref b11), .val (.ref b19), .val (.ref b28), .val (.ref b39), .unset, .unset, .unset] [])) _
          refine XS.aloadN X88.here hx rfl (hb hby at_107) rfl rfl ?_
          show Steps p.tables e below (T88.setTop (mkF m 108 #[.val (.int p0), .val (.int n), .val (.ref b2), .val (.ref b4), .val (.ref b11), .val (.ref b19), .val (.ref b28), .val (.ref b39), .unset, .unset, .unset] [(.ref b2)])) _
          refine st89.trans ?_
          show Steps p.tables e below (T89.setTop (mkF m 111 #[.val (.int p0), .val (.int n), .val (.ref b2), .val (.ref b4), .val (.ref b11), .val (.ref b19), .val (.ref b28), .val (.ref b39), .unset, .unset, .unset] [.null])) _
          refine XS.ifnonnullNo X89.here hx rfl (hb hby at_111) rfl ?_
          show Steps p.tables e below (T89.setTop (mkF m 114 #[.val (.int p0), .val (.int n), .val (.ref b2), .val (.ref b4), .val (.ref b11), .val (.ref b19), .val (.ref b28), .val (.ref b39), .unset, .unset, .unset] [])) _
          refine XS.aloadN X89.here hx rfl (hb hby at_114) rfl rfl ?_
          show Steps p.tables e below (T89.setTop (mkF m 115 #[.val (.int p0), .val (.int n), .val (.ref b2), .val (.ref b4), .val (.ref b11), .val (.ref b19), .val (.ref b28), .val (.ref b39), .unset, .unset, .unset] [(.ref b2)])) _
          refine st90.trans ?_
          show Steps p.tables e below (T90.setTop (mkF m 118 #[.val (.int p0), .val (.int n), .val (.ref b2), .val (.ref b4), .val (.ref b11), .val (.ref b19), .val (.ref b28), .val (.ref b39), .unset, .unset, .unset] [.null])) _
          refine XS.ifnonnullNo X90.here hx rfl (hb hby at_118) rfl ?_
          show Steps p.tables e below (T90.setTop (mkF m 121 #[.val (.int p0), .val (.int n), .val (.ref b2), .val (.ref b4), .val (.ref b11), .val (.ref b19), .val (.ref b28), .val (.ref b39), .unset, .unset, .unset] [])) _
          refine XS.iconst X90.here hx rfl (hb hby at_121) ?_
          show Steps p.tables e below (T90.setTop (mkF m 122 #[.val (.int p0), .val (.int n), .val (.ref b2), .val (.ref b4), .val (.ref b11), .val (.ref b19), .val (.ref b28), .val (.ref b39), .unset, .unset, .unset] [(.int (1 : Int32))])) _
          refine XS.goto X90.here hx rfl (pc0 := 122) (pc' := 126) rfl (hb hby at_122) (by decide) (by decide) ?_
          show Steps p.tables e below (T90.setTop (mkF m 126 #[.val (.int p0), .val (.int n), .val (.ref b2), .val (.ref b4), .val (.ref b11), .val (.ref b19), .val (.ref b28), .val (.ref b39), .unset, .unset, .unset] [(.int (1 : Int32))])) _
          refine XS.istore X90.here hx rfl (hb hby at_126) rfl (l' := #[.val (.int p0), .val (.int n), .val (.ref b2), .val (.ref b4), .val (.ref b11), .val (.ref b19), .val (.ref b28), .val (.ref b39), .val (.int (1 : Int32)), .unset, .unset]) rfl ?_
          show Steps p.tables e below (T90.setTop (mkF m 128 #[.val (.int p0), .val (.int n), .val (.ref b2), .val (.ref b4), .val (.ref b11), .val (.ref b19), .val (.ref b28), .val (.ref b39), .val (.int (1 : Int32)), .unset, .unset] [])) _
          refine XS.aloadN X90.here hx rfl (hb hby at_128) rfl rfl ?_
          show Steps p.tables e below (T90.setTop (mkF m 129 #[.val (.int p0), .val (.int n), .val (.ref b2), .val (.ref b4), .val (.ref b11), .val (.ref b19), .val (.ref b28), .val (.ref b39), .val (.int (1 : Int32)), .unset, .unset] [(.ref b2)])) _
          refine XS.aloadN X90.here hx rfl (hb hby at_129) rfl rfl ?_
          show Steps p.tables e below (T90.setTop (mkF m 130 #[.val (.int p0), .val (.int n), .val (.ref b2), .val (.ref b4), .val (.ref b11), .val (.ref b19), .val (.ref b28), .val (.ref b39), .val (.int (1 : Int32)), .unset, .unset] [(.ref b4), (.ref b2)])) _
          refine st91.trans ?_
          show Steps p.tables e below (T91.setTop (mkF m 133 #[.val (.int p0), .val (.int n), .val (.ref b2), .val (.ref b4), .val (.ref b11), .val (.ref b19), .val (.ref b28), .val (.ref b39), .val (.int (1 : Int32)), .unset, .unset] [])) _
          refine XS.aloadN X91.here hx rfl (hb hby at_133) rfl rfl ?_
          show Steps p.tables e below (T91.setTop (mkF m 134 #[.val (.int p0), .val (.int n), .val (.ref b2), .val (.ref b4), .val (.ref b11), .val (.ref b19), .val (.ref b28), .val (.ref b39), .val (.int (1 : Int32)), .unset, .unset] [(.ref b4)])) _
          refine st92.trans ?_
          show Steps p.tables e below (T92.setTop (mkF m 137 #[.val (.int p0), .val (.int n), .val (.ref b2), .val (.ref b4), .val (.ref b11), .val (.ref b19), .val (.ref b28), .val (.ref b39), .val (.int (1 : Int32)), .unset, .unset] [(.int (0 : Int32))])) _
          refine XS.ifNo X92.here hx rfl (hb hby at_137) rfl ((if0 _ _).trans (teq (show (0 : Int32) = (0 : Int32) from (by decide))).2) ?_
          show Steps p.tables e below (T92.setTop (mkF m 140 #[.val (.int p0), .val (.int n), .val (.ref b2), .val (.ref b4), .val (.ref b11), .val (.ref b19), .val (.ref b28), .val (.ref b39), .val (.int (1 : Int32)), .unset, .unset] [])) _
          refine XS.iconst X92.here hx rfl (hb hby at_140) ?_
          show Steps p.tables e below (T92.setTop (mkF m 141 #[.val (.int p0), .val (.int n), .val (.ref b2), .val (.ref b4), .val (.ref b11), .val (.ref b19), .val (.ref b28), .val (.ref b39), .val (.int (1 : Int32)), .unset, .unset] [(.int (1 : Int32))])) _
          refine XS.goto X92.here hx rfl (pc0 := 141) (pc' := 145) rfl (hb hby at_141) (by decide) (by decide) ?_
          show Steps p.tables e below (T92.setTop (mkF m 145 #[.val (.int p0), .val (.int n), .val (.ref b2), .val (.ref b4), .val (.ref b11), .val (.ref b19), .val (.ref b28), .val (.ref b39), .val (.int (1 : Int32)), .unset, .unset] [(.int (1 : Int32))])) _
          refine XS.istore X92.here hx rfl (hb hby at_145) rfl (l' := #[.val (.int p0), .val (.int n), .val (.ref b2), .val (.ref b4), .val (.ref b11), .val (.ref b19), .val (.ref b28), .val (.ref b39), .val (.int (1 : Int32)), .val (.int (1 : Int32)), .unset]) rfl ?_
          show Steps p.tables e below (T92.setTop (mkF m 147 #[.val (.int p0), .val (.int n), .val (.ref b2), .val (.ref b4), .val (.ref b11), .val (.ref b19), .val (.ref b28), .val (.ref b39), .val (.int (1 : Int32)), .val (.int (1 : Int32)), .unset] [])) _
          refine XS.aloadN X92.here hx rfl (hb hby at_147) rfl rfl ?_
          show Steps p.tables e below (T92.setTop (mkF m 148 #[.val (.int p0), .val (.int n), .val (.ref b2), .val (.ref b4), .val (.ref b11), .val (.ref b19), .val (.ref b28), .val (.ref b39), .val (.int (1 : Int32)), .val (.int (1 : Int32)), .unset] [(.ref b2)])) _
          refine XS.aload X92.here hx rfl (hb hby at_148) rfl rfl ?_
          show Steps p.tables e below (T92.setTop (mkF m 150 #[.val (.int p0), .val (.int n), .val (.ref b2), .val (.ref b4), .val (.ref b11), .val (.ref b19), .val (.ref b28), .val (.ref b39), .val (.int (1 : Int32)), .val (.int (1 : Int32)), .unset] [(.ref b39), (.ref b2)])) _
          refine XS.aload X92.here hx rfl (hb hby at_150) rfl rfl ?_
          show Steps p.tables e below (T92.setTop (mkF m 152 #[.val (.int p0), .val (.int n), .val (.ref b2), .val (.ref b4), .val (.ref b11), .val (.ref b19), .val (.ref b28), .val (.ref b39), .val (.int (1 : Int32)), .val (.int (1 : Int32)), .unset] [(.ref b19), (.ref b39), (.ref b2)])) _
          refine st95.trans ?_
          show Steps p.tables e below (T95.setTop (mkF m 155 #[.val (.int p0), .val (.int n), .val (.ref b2), .val (.ref b4), .val (.ref b11), .val (.ref b19), .val (.ref b28), .val (.ref b39), .val (.int (1 : Int32)), .val (.int (1 : Int32)), .unset] [])) _
          refine XS.aloadN X95.here hx rfl (hb hby at_155) rfl rfl ?_
          show Steps p.tables e below (T95.setTop (mkF m 156 #[.val (.int p0), .val (.int n), .val (.ref b2), .val (.ref b4), .val (.ref b11), .val (.ref b19), .val (.ref b28), .val (.ref b39), .val (.int (1 : Int32)), .val (.int (1 : Int32)), .unset] [(.ref b2)])) _
          refine st96.trans ?_
          show Steps p.tables e below (T96.setTop (mkF m 159 #[.val (.int p0), .val (.int n), .val (.ref b2), .val (.ref b4), .val (.ref b11), .val (.ref b19), .val (.ref b28), .val (.ref b39), .val (.int (1 : Int32)), .val (.int (1 : Int32)), .unset] [(.ref b19)])) _
          refine XS.aload X96.here hx rfl (hb hby at_159) rfl rfl ?_
          show Steps p.tables e below (T96.setTop (mkF m 161 #[.val (.int p0), .val (.int n), .val (.ref b2), .val (.ref b4), .val (.ref b11), .val (.ref b19), .val (.ref b28), .val (.ref b39), .val (.int (1 : Int32)), .val (.int (1 : Int32)), .unset] [(.ref b19), (.ref b19)])) _
          refine Jvm.RoadKit.acmp (g := (mkF m 161 #[.val (.int p0), .val (.int n), .val (.ref b2), .val (.ref b4), .val (.ref b11), .val (.ref b19), .val (.ref b28), .val (.ref b39), .val (.int (1 : Int32)), .val (.int (1 : Int32)), .unset] [(.ref b19), (.ref b19)])) X96 hx rfl rfl rfl (pc0 := 161) (pc' := 164) (same := true) rfl (hb hby at_161) rfl (decide_eq_true rfl) (by decide) (by decide) ?_
          show Steps p.tables e below (T96.setTop (mkF m 164 #[.val (.int p0), .val (.int n), .val (.ref b2), .val (.ref b4), .val (.ref b11), .val (.ref b19), .val (.ref b28), .val (.ref b39), .val (.int (1 : Int32)), .val (.int (1 : Int32)), .unset] [])) _
          refine XS.aloadN X96.here hx rfl (hb hby at_164) rfl rfl ?_
          show Steps p.tables e below (T96.setTop (mkF m 165 #[.val (.int p0), .val (.int n), .val (.ref b2), .val (.ref b4), .val (.ref b11), .val (.ref b19), .val (.ref b28), .val (.ref b39), .val (.int (1 : Int32)), .val (.int (1 : Int32)), .unset] [(.ref b2)])) _
          refine st97.trans ?_
          show Steps p.tables e below (T97.setTop (mkF m 168 #[.val (.int p0), .val (.int n), .val (.ref b2), .val (.ref b4), .val (.ref b11), .val (.ref b19), .val (.ref b28), .val (.ref b39), .val (.int (1 : Int32)), .val (.int (1 : Int32)), .unset] [.null])) _
          refine XS.ifnonnullNo X97.here hx rfl (hb hby at_168) rfl ?_
          show Steps p.tables e below (T97.setTop (mkF m 171 #[.val (.int p0), .val (.int n), .val (.ref b2), .val (.ref b4), .val (.ref b11), .val (.ref b19), .val (.ref b28), .val (.ref b39), .val (.int (1 : Int32)), .val (.int (1 : Int32)), .unset] [])) _
          refine XS.iconst X97.here hx rfl (hb hby at_171) ?_
          show Steps p.tables e below (T97.setTop (mkF m 172 #[.val (.int p0), .val (.int n), .val (.ref b2), .val (.ref b4), .val (.ref b11), .val (.ref b19), .val (.ref b28), .val (.ref b39), .val (.int (1 : Int32)), .val (.int (1 : Int32)), .unset] [(.int (1 : Int32))])) _
          refine XS.goto X97.here hx rfl (pc0 := 172) (pc' := 176) rfl (hb hby at_172) (by decide) (by decide) ?_
          show Steps p.tables e below (T97.setTop (mkF m 176 #[.val (.int p0), .val (.int n), .val (.ref b2), .val (.ref b4), .val (.ref b11), .val (.ref b19), .val (.ref b28), .val (.ref b39), .val (.int (1 : Int32)), .val (.int (1 : Int32)), .unset] [(.int (1 : Int32))])) _
          refine XS.istore X97.here hx rfl (hb hby at_176) rfl (l' := #[.val (.int p0), .val (.int n), .val (.ref b2), .val (.ref b4), .val (.ref b11), .val (.ref b19), .val (.ref b28), .val (.ref b39), .val (.int (1 : Int32)), .val (.int (1 : Int32)), .val (.int (1 : Int32))]) rfl ?_
          show Steps p.tables e below (T97.setTop (mkF m 178 #[.val (.int p0), .val (.int n), .val (.ref b2), .val (.ref b4), .val (.ref b11), .val (.ref b19), .val (.ref b28), .val (.ref b39), .val (.int (1 : Int32)), .val (.int (1 : Int32)), .val (.int (1 : Int32))] [])) _
          refine XS.iload X97.here hx rfl (hb hby at_178) rfl ?_
          show Steps p.tables e below (T97.setTop (mkF m 180 #[.val (.int p0), .val (.int n), .val (.ref b2), .val (.ref b4), .val (.ref b11), .val (.ref b19), .val (.ref b28), .val (.ref b39), .val (.int (1 : Int32)), .val (.int (1 : Int32)), .val (.int (1 : Int32))] [(.int (1 : Int32))])) _
          refine XS.ifNo X97.here hx rfl (hb hby at_180) rfl ((if0 _ _).trans (feq (show ¬ ((1 : Int32) = (0 : Int32)) from (by decide))).1) ?_
          show Steps p.tables e below (T97.setTop (mkF m 183 #[.val (.int p0), .val (.int n), .val (.ref b2), .val (.ref b4), .val (.ref b11), .val (.ref b19), .val (.ref b28), .val (.ref b39), .val (.int (1 : Int32)), .val (.int (1 : Int32)), .val (.int (1 : Int32))] [])) _
          refine XS.iload X97.here hx rfl (hb hby at_183) rfl ?_
          show Steps p.tables e below (T97.setTop (mkF m 185 #[.val (.int p0), .val (.int n), .val (.ref b2), .val (.ref b4), .val (.ref b11), .val (.ref b19), .val (.ref b28), .val (.ref b39), .val (.int (1 : Int32)), .val (.int (1 : Int32)), .val (.int (1 : Int32))] [(.int (1 : Int32))])) _
          refine XS.ifNo X97.here hx rfl (hb hby at_185) rfl ((if0 _ _).trans (feq (show ¬ ((1 : Int32) = (0 : Int32)) from (by decide))).1) ?_
          show Steps p.tables e below (T97.setTop (mkF m 188 #[.val (.int p0), .val (.int n), .val (.ref b2), .val (.ref b4), .val (.ref b11), .val (.ref b19), .val (.ref b28), .val (.ref b39), .val (.int (1 : Int32)), .val (.int (1 : Int32)), .val (.int (1 : Int32))] [])) _
          refine XS.iload X97.here hx rfl (hb hby at_188) rfl ?_
          show Steps p.tables e below (T97.setTop (mkF m 190 #[.val (.int p0), .val (.int n), .val (.ref b2), .val (.ref b4), .val (.ref b11), .val (.ref b19), .val (.ref b28), .val (.ref b39), .val (.int (1 : Int32)), .val (.int (1 : Int32)), .val (.int (1 : Int32))] [(.int (1 : Int32))])) _
          refine XS.ifNo X97.here hx rfl (hb hby at_190) rfl ((if0 _ _).trans (feq (show ¬ ((1 : Int32) = (0 : Int32)) from (by decide))).1) ?_
          show Steps p.tables e below (T97.setTop (mkF m 193 #[.val (.int p0), .val (.int n), .val (.ref b2), .val (.ref b4), .val (.ref b11), .val (.ref b19), .val (.ref b28), .val (.ref b39), .val (.int (1 : Int32)), .val (.int (1 : Int32)), .val (.int (1 : Int32))] [])) _
          refine XS.iconst X97.here hx rfl (hb hby at_193) ?_
          show Steps p.tables e below (T97.setTop (mkF m 194 #[.val (.int p0), .val (.int n), .val (.ref b2), .val (.ref b4), .val (.ref b11), .val (.ref b19), .val (.ref b28), .val (.ref b39), .val (.int (1 : Int32)), .val (.int (1 : Int32)), .val (.int (1 : Int32))] [(.int (1 : Int32))])) _
          refine XS.goto X97.here hx rfl (pc0 := 194) (pc' := 198) rfl (hb hby at_194) (by decide) (by decide) ?_
          show Steps p.tables e below (T97.setTop (mkF m 198 #[.val (.int p0), .val (.int n), .val (.ref b2), .val (.ref b4), .val (.ref b11), .val (.ref b19), .val (.ref b28), .val (.ref b39), .val (.int (1 : Int32)), .val (.int (1 : Int32)), .val (.int (1 : Int32))] [(.int (1 : Int32))])) _
          exact retN X97 hx (t := .boolean) Bd.returns (by simp) (hb hby at_198) hr
        · show Q0 h0 n0 _ T97.heap _
          rw [e97]
          exact ⟨rfl, N97⟩
      · have f99 := (f86.keep K81)
        have f100 := ((F42_0.keep K63 (own_notin1 (Ne.symm ne_b2_b39))).keep K81 (own_notin1 (Ne.symm ne_b2_b39)))
        obtain ⟨cq98, kq98, q98a, q98b, q98c⟩ := isOf hZ rfl E81o
        obtain ⟨_, _, ⟨T98, L98, k98, n98⟩, -, X98, ⟨Lc98, hQ98, l98, y98, z98⟩, st98⟩ := X81.virtualBack hx (y := (⟨"com/example/trusted_cut/trustedcut/program/Selections", "add", "(Lcom/example/trusted_cut/trustedcut/program/Unifier;Ljava/util/List;)V"⟩ : MethodName)) (z := (⟨"com/example/trusted_cut/trustedcut/program/Selections", "add", "(Lcom/example/trusted_cut/trustedcut/program/Unifier;Ljava/util/List;)V"⟩ : MethodName)) hown (mvT hZ (hw _ (List.mem_of_getElem? (i := 118) rfl))) (mvT hZ (hw _ (List.mem_of_getElem? (i := 119) rfl))) (notFace_of_selects (args := #[]) (mvT hZ (hw _ (List.mem_of_getElem? (i := 121) rfl)))) (mvT hZ (hw _ (List.mem_of_getElem? (i := 121) rfl))) (mvT hZ (hw _ (List.mem_of_getElem? (i := 120) rfl))) (by decide) (backOf (W := 0) (rmA2 l Z a0 hw [] b2 b39 b11 b28 b11 c81 b39 T81.heap n0 Z81 E81o F81_0 F81_1 F81_2 F81_3 F81_4 f99 f100 Ec81 Fcu81 Fcn81 g_b2 g_b39 g_c81 ne_b2_b39 ne_b2_c81 ne_b39_c81) hZ (hw _ (List.mem_of_getElem? (i := 122) rfl)) (hw _ (List.mem_of_getElem? (i := 2) rfl)) (by decide) (by decide)) q98a q98c (g := (mkF m 100 #[.val (.int p0), .val (.int n), .val (.ref b2), .val (.ref b4), .val (.ref b11), .val (.ref b19), .val (.ref b28), .val (.ref b39), .unset, .unset, .unset] [(.ref b11), (.ref b39), (.ref b2)])) rfl (by rw [hml]; rfl) (Steps.refl _) (argsL := [(.ref b39), (.ref b11)]) (rest := []) (lenOf pd_10 rfl) rfl (by show 2 * 0 + _ ≤ _; exact Nat.le_of_eq rfl) (hb hby at_100) (fun _ _ => ⟨rfl, rfl, (by decide : 10 + 1 ≤ _), (by decide : 108 + 4 ≤ _)⟩)
        dsimp only [Pt.U, Pt.locs, Pt.cells, Pt.slots] at X98 l98 y98 z98 st98 hQ98
        subst l98 y98 z98
        obtain ⟨d98, rfl, N98q, K98, E98o, F98_0, F98_1, F98_2, F98_3, F98_4⟩ := hQ98
        have KK98 : Keep h0 T98.heap [] := Keep.trans KK81 K98 (own_side3 (Or.inr sz_b2) (Or.inr sz_b39) (Or.inr sz_c81))
        have Z98 : n0 ≤ T98.heap.size := Nat.le_trans Z0 KK98.1
        have N98 := Fr.app N81 N98q
        obtain ⟨cq101, kq101, q101a, q101b, q101c⟩ := isOf hZ rfl E98o
        obtain ⟨_, _, ⟨T101, L101, k101, n101⟩, -, X101, ⟨Lc101, hQ101, l101, y101, z101⟩, st101⟩ := X98.virtualBack hx (y := (⟨"com/example/trusted_cut/trustedcut/program/Selections", "clear", "()V"⟩ : MethodName)) (z := (⟨"com/example/trusted_cut/trustedcut/program/Selections", "clear", "()V"⟩ : MethodName)) hown (mvT hZ (hw _ (List.mem_of_getElem? (i := 81) rfl))) (mvT hZ (hw _ (List.mem_of_getElem? (i := 82) rfl))) (notFace_of_selects (args := #[]) (mvT hZ (hw _ (List.mem_of_getElem? (i := 84) rfl)))) (mvT hZ (hw _ (List.mem_of_getElem? (i := 84) rfl))) (mvT hZ (hw _ (List.mem_of_getElem? (i := 83) rfl))) (by decide) (backOf (W := 0) (rmCL l Z a0 hw [] b2 (.int (3 : Int32)) (.ref b28) (.ref b11) (.ref c81) (.ref d98) T98.heap n0 Z98 E98o F98_0 F98_1 F98_2 F98_3 F98_4 g_b2) hZ (hw _ (List.mem_of_getElem? (i := 85) rfl)) (hw _ (List.mem_of_getElem? (i := 2) rfl)) (by decide) (by decide)) q101a q101c (g := (mkF m 104 #[.val (.int p0), .val (.int n), .val (.ref b2), .val (.ref b4), .val (.ref b11), .val (.ref b19), .val (.ref b28), .val (.ref b39), .unset, .unset, .unset] [(.ref b2)])) rfl (by rw [hml]; rfl) (Steps.refl _) (argsL := []) (rest := []) (lenOf pd_0 rfl) rfl (by show 2 * 0 + _ ≤ _; exact Nat.le_of_eq rfl) (hb hby at_104) (fun _ _ => ⟨rfl, rfl, (by decide : 11 + 0 ≤ _), (by decide : 112 + 0 ≤ _)⟩)
        dsimp only [Pt.U, Pt.locs, Pt.cells, Pt.slots] at X101 l101 y101 z101 st101 hQ101
        subst l101 y101 z101
        obtain ⟨rfl, N101q, K101, E101o, F101_0, F101_1, F101_2, F101_3, F101_4⟩ := hQ101
        have KK101 : Keep h0 T101.heap [] := Keep.trans KK98 K101 (own_side1 (Or.inr sz_b2))
        have Z101 : n0 ≤ T101.heap.size := Nat.le_trans Z0 KK101.1
        have N101 := Fr.app N98 N101q
        obtain ⟨cq102, kq102, q102a, q102b, q102c⟩ := isOf hZ rfl E101o
        obtain ⟨_, _, ⟨T102, L102, k102, n102⟩, -, X102, ⟨Lc102, hQ102, l102, y102, z102⟩, st102⟩ := X101.virtualBack hx (y := (⟨"com/example/trusted_cut/trustedcut/program/Selections", "goals", "()Ljava/util/List;"⟩ : MethodName)) (z := (⟨"com/example/trusted_cut/trustedcut/program/Selections", "goals", "()Ljava/util/List;"⟩ : MethodName)) hown (mvT hZ (hw _ (List.mem_of_getElem? (i := 96) rfl))) (mvT hZ (hw _ (List.mem_of_getElem? (i := 97) rfl))) (notFace_of_selects (args := #[]) (mvT hZ (hw _ (List.mem_of_getElem? (i := 99) rfl)))) (mvT hZ (hw _ (List.mem_of_getElem? (i := 99) rfl))) (mvT hZ (hw _ (List.mem_of_getElem? (i := 98) rfl))) (by decide) (backOf (W := 0) (rmG0 l Z a0 hw [] b2 T101.heap n0 Z101 F101_0) hZ (hw _ (List.mem_of_getElem? (i := 100) rfl)) (hw _ (List.mem_of_getElem? (i := 2) rfl)) (by decide) (by decide)) q102a q102c (g := (mkF m 108 #[.val (.int p0), .val (.int n), .val (.ref b2), .val (.ref b4), .val (.ref b11), .val (.ref b19), .val (.ref b28), .val (.ref b39), .unset, .unset, .unset] [(.ref b2)])) rfl (by rw [hml]; rfl) (Steps.refl _) (argsL := []) (rest := []) (lenOf pd_6 rfl) rfl (by show 2 * 0 + _ ≤ _; exact Nat.le_of_eq rfl) (hb hby at_108) (fun _ _ => ⟨rfl, rfl, (by decide : 11 + 0 ≤ _), (by decide : 112 + 0 ≤ _)⟩)
        dsimp only [Pt.U, Pt.locs, Pt.cells, Pt.slots] at X102 l102 y102 z102 st102 hQ102
        subst l102 y102 z102
        obtain ⟨rfl, N102q, e102⟩ := hQ102
        have N102 := Fr.app N101 N102q
        obtain ⟨cq103, kq103, q103a, q103b, q103c⟩ := isOf hZ e102 E101o
        obtain ⟨_, _, ⟨T103, L103, k103, n103⟩, -, X103, ⟨Lc103, hQ103, l103, y103, z103⟩, st103⟩ := X102.virtualBack hx (y := (⟨"com/example/trusted_cut/trustedcut/program/Selections", "more", "()Lcom/example/trusted_cut/trustedcut/program/Choice;"⟩ : MethodName)) (z := (⟨"com/example/trusted_cut/trustedcut/program/Selections", "more", "()Lcom/example/trusted_cut/trustedcut/program/Choice;"⟩ : MethodName)) hown (mvT hZ (hw _ (List.mem_of_getElem? (i := 101) rfl))) (mvT hZ (hw _ (List.mem_of_getElem? (i := 102) rfl))) (notFace_of_selects (args := #[]) (mvT hZ (hw _ (List.mem_of_getElem? (i := 104) rfl)))) (mvT hZ (hw _ (List.mem_of_getElem? (i := 104) rfl))) (mvT hZ (hw _ (List.mem_of_getElem? (i := 103) rfl))) (by decide) (backOf (W := 0) (rmMO l Z a0 hw [] b2 T101.heap n0 Z101 F101_3) hZ (hw _ (List.mem_of_getElem? (i := 105) rfl)) (hw _ (List.mem_of_getElem? (i := 2) rfl)) (by decide) (by decide)) q103a q103c (g := (mkF m 115 #[.val (.int p0), .val (.int n), .val (.ref b2), .val (.ref b4), .val (.ref b11), .val (.ref b19), .val (.ref b28), .val (.ref b39), .unset, .unset, .unset] [(.ref b2)])) rfl (by rw [hml]; rfl) (Steps.refl _) (argsL := []) (rest := []) (lenOf pd_7 rfl) rfl (by show 2 * 0 + _ ≤ _; exact Nat.le_of_eq rfl) (hb hby at_115) (fun _ _ => ⟨rfl, e102, (by decide : 11 + 0 ≤ _), (by decide : 112 + 0 ≤ _)⟩)
        dsimp only [Pt.U, Pt.locs, Pt.cells, Pt.slots] at X103 l103 y103 z103 st103 hQ103
        subst l103 y103 z103
        obtain ⟨rfl, N103q, e103⟩ := hQ103
        have N103 := Fr.app N102 N103q
        obtain ⟨cq104, kq104, q104a, q104b, q104c⟩ := isOf hZ e103 E101o
        obtain ⟨_, _, ⟨T104, L104, k104, n104⟩, -, X104, ⟨Lc104, hQ104, l104, y104, z104⟩, st104⟩ := X103.virtualBack hx (y := (⟨"com/example/trusted_cut/trustedcut/program/Selections", "enterFirst", "(Lcom/example/trusted_cut/trustedcut/program/Bindings;)V"⟩ : MethodName)) (z := (⟨"com/example/trusted_cut/trustedcut/program/Selections", "enterFirst", "(Lcom/example/trusted_cut/trustedcut/program/Bindings;)V"⟩ : MethodName)) hown (mvT hZ (hw _ (List.mem_of_getElem? (i := 106) rfl))) (mvT hZ (hw _ (List.mem_of_getElem? (i := 107) rfl))) (notFace_of_selects (args := #[]) (mvT hZ (hw _ (List.mem_of_getElem? (i := 109) rfl)))) (mvT hZ (hw _ (List.mem_of_getElem? (i := 109) rfl))) (mvT hZ (hw _ (List.mem_of_getElem? (i := 108) rfl))) (by decide) (backOf (W := 0) (rmEF l Z a0 hw [] b2 b4 T101.heap n0 Z101 F101_1) hZ (hw _ (List.mem_of_getElem? (i := 110) rfl)) (hw _ (List.mem_of_getElem? (i := 2) rfl)) (by decide) (by decide)) q104a q104c (g := (mkF m 130 #[.val (.int p0), .val (.int n), .val (.ref b2), .val (.ref b4), .val (.ref b11), .val (.ref b19), .val (.ref b28), .val (.ref b39), .val (.int (1 : Int32)), .unset, .unset] [(.ref b4), (.ref b2)])) rfl (by rw [hml]; rfl) (Steps.refl _) (argsL := [(.ref b4)]) (rest := []) (lenOf pd_8 rfl) rfl (by show 2 * 0 + _ ≤ _; exact Nat.le_of_eq rfl) (hb hby at_130) (fun _ _ => ⟨rfl, e103, (by decide : 11 + 0 ≤ _), (by decide : 112 + 0 ≤ _)⟩)
        dsimp only [Pt.U, Pt.locs, Pt.cells, Pt.slots] at X104 l104 y104 z104 st104 hQ104
        subst l104 y104 z104
        obtain ⟨rfl, N104q, e104⟩ := hQ104
        have N104 := Fr.app N103 N104q
        have f106 := ((((((((((((F5_0.ext E11).keep K12 (own_notin1 ne_b4_b11)).ext E19).keep K20 (own_notin1 ne_b4_b19)).ext E28).keep K31 (own_notin1 ne_b4_b28)).ext E39).keep K42 (own_notin1 ne_b4_b39)).keep K63 (own_notin1 (Ne.symm ne_b2_b4))).keep K81 (own_notin1 (Ne.symm ne_b2_b4))).keep K98 (own_notin3 (Ne.symm ne_b2_b4) ne_b4_b39 ne_b4_c81)).keep K101 (own_notin1 (Ne.symm ne_b2_b4)))
        have f107 := (((f82.keep K81).keep K98).keep K101)
        obtain ⟨cq105, kq105, q105a, q105b, q105c⟩ := isOf hZ e104 f107
        obtain ⟨_, _, ⟨T105, L105, k105, n105⟩, -, X105, ⟨Lc105, hQ105, l105, y105, z105⟩, st105⟩ := X104.virtualBack hx (y := (⟨"com/example/trusted_cut/trustedcut/program/Bindings", "mark", "()I"⟩ : MethodName)) (z := (⟨"com/example/trusted_cut/trustedcut/program/Bindings", "mark", "()I"⟩ : MethodName)) hown (mvT hZ (hw _ (List.mem_of_getElem? (i := 111) rfl))) (mvT hZ (hw _ (List.mem_of_getElem? (i := 112) rfl))) (notFace_of_selects (args := #[]) (mvT hZ (hw _ (List.mem_of_getElem? (i := 114) rfl)))) (mvT hZ (hw _ (List.mem_of_getElem? (i := 114) rfl))) (mvT hZ (hw _ (List.mem_of_getElem? (i := 113) rfl))) (by decide) (backOf (W := 0) (rmMK l Z a0 hw [] b4 T101.heap n0 Z101 f106) hZ (hw _ (List.mem_of_getElem? (i := 115) rfl)) (hw _ (List.mem_of_getElem? (i := 11) rfl)) (by decide) (by decide)) q105a q105c (g := (mkF m 134 #[.val (.int p0), .val (.int n), .val (.ref b2), .val (.ref b4), .val (.ref b11), .val (.ref b19), .val (.ref b28), .val (.ref b39), .val (.int (1 : Int32)), .unset, .unset] [(.ref b4)])) rfl (by rw [hml]; rfl) (Steps.refl _) (argsL := []) (rest := []) (lenOf pd_9 rfl) rfl (by show 2 * 0 + _ ≤ _; exact Nat.le_of_eq rfl) (hb hby at_134) (fun _ _ => ⟨rfl, e104, (by decide : 11 + 0 ≤ _), (by decide : 112 + 0 ≤ _)⟩)
        dsimp only [Pt.U, Pt.locs, Pt.cells, Pt.slots] at X105 l105 y105 z105 st105 hQ105
        subst l105 y105 z105
        obtain ⟨rfl, N105q, e105⟩ := hQ105
        have N105 := Fr.app N104 N105q
        obtain ⟨cq108, kq108, q108a, q108b, q108c⟩ := isOf hZ e105 E101o
        obtain ⟨_, _, ⟨T108, L108, k108, n108⟩, -, X108, ⟨Lc108, hQ108, l108, y108, z108⟩, st108⟩ := X105.virtualBack hx (y := (⟨"com/example/trusted_cut/trustedcut/program/Selections", "add", "(Lcom/example/trusted_cut/trustedcut/program/Unifier;Ljava/util/List;)V"⟩ : MethodName)) (z := (⟨"com/example/trusted_cut/trustedcut/program/Selections", "add", "(Lcom/example/trusted_cut/trustedcut/program/Unifier;Ljava/util/List;)V"⟩ : MethodName)) hown (mvT hZ (hw _ (List.mem_of_getElem? (i := 118) rfl))) (mvT hZ (hw _ (List.mem_of_getElem? (i := 119) rfl))) (notFace_of_selects (args := #[]) (mvT hZ (hw _ (List.mem_of_getElem? (i := 121) rfl)))) (mvT hZ (hw _ (List.mem_of_getElem? (i := 121) rfl))) (mvT hZ (hw _ (List.mem_of_getElem? (i := 120) rfl))) (by decide) (backOf (W := 0) (rmA0 l Z a0 hw [] b2 b39 b19 T101.heap n0 Z101 E101o F101_0 F101_1 F101_2 F101_3 F101_4 g_b2) hZ (hw _ (List.mem_of_getElem? (i := 122) rfl)) (hw _ (List.mem_of_getElem? (i := 2) rfl)) (by decide) (by decide)) q108a q108c (g := (mkF m 152 #[.val (.int p0), .val (.int n), .val (.ref b2), .val (.ref b4), .val (.ref b11), .val (.ref b19), .val (.ref b28), .val (.ref b39), .val (.int (1 : Int32)), .val (.int (1 : Int32)), .unset] [(.ref b19), (.ref b39), (.ref b2)])) rfl (by rw [hml]; rfl) (Steps.refl _) (argsL := [(.ref b39), (.ref b19)]) (rest := []) (lenOf pd_10 rfl) rfl (by show 2 * 0 + _ ≤ _; exact Nat.le_of_eq rfl) (hb hby at_152) (fun _ _ => ⟨rfl, e105, (by decide : 11 + 0 ≤ _), (by decide : 112 + 0 ≤ _)⟩)
        dsimp only [Pt.U, Pt.locs, Pt.cells, Pt.slots] at X108 l108 y108 z108 st108 hQ108
        subst l108 y108 z108
        obtain ⟨rfl, N108q, K108, E108o, F108_0, F108_1, F108_2, F108_3, F108_4⟩ := hQ108
        have KK108 : Keep h0 T108.heap [] := Keep.trans KK101 K108 (own_side1 (Or.inr sz_b2))
        have Z108 : n0 ≤ T108.heap.size := Nat.le_trans Z0 KK108.1
        have N108 := Fr.app N105 N108q
        obtain ⟨cq109, kq109, q109a, q109b, q109c⟩ := isOf hZ rfl E108o
        obtain ⟨_, _, ⟨T109, L109, k109, n109⟩, -, X109, ⟨Lc109, hQ109, l109, y109, z109⟩, st109⟩ := X108.virtualBack hx (y := (⟨"com/example/trusted_cut/trustedcut/program/Selections", "goals", "()Ljava/util/List;"⟩ : MethodName)) (z := (⟨"com/example/trusted_cut/trustedcut/program/Selections", "goals", "()Ljava/util/List;"⟩ : MethodName)) hown (mvT hZ (hw _ (List.mem_of_getElem? (i := 96) rfl))) (mvT hZ (hw _ (List.mem_of_getElem? (i := 97) rfl))) (notFace_of_selects (args := #[]) (mvT hZ (hw _ (List.mem_of_getElem? (i := 99) rfl)))) (mvT hZ (hw _ (List.mem_of_getElem? (i := 99) rfl))) (mvT hZ (hw _ (List.mem_of_getElem? (i := 98) rfl))) (by decide) (backOf (W := 0) (rmG1 l Z a0 hw [] b2 b19 T108.heap n0 Z108 F108_0 F108_2) hZ (hw _ (List.mem_of_getElem? (i := 100) rfl)) (hw _ (List.mem_of_getElem? (i := 2) rfl)) (by decide) (by decide)) q109a q109c (g := (mkF m 156 #[.val (.int p0), .val (.int n), .val (.ref b2), .val (.ref b4), .val (.ref b11), .val (.ref b19), .val (.ref b28), .val (.ref b39), .val (.int (1 : Int32)), .val (.int (1 : Int32)), .unset] [(.ref b2)])) rfl (by rw [hml]; rfl) (Steps.refl _) (argsL := []) (rest := []) (lenOf pd_6 rfl) rfl (by show 2 * 0 + _ ≤ _; exact Nat.le_of_eq rfl) (hb hby at_156) (fun _ _ => ⟨rfl, rfl, (by decide : 11 + 0 ≤ _), (by decide : 112 + 0 ≤ _)⟩)
        dsimp only [Pt.U, Pt.locs, Pt.cells, Pt.slots] at X109 l109 y109 z109 st109 hQ109
        subst l109 y109 z109
        obtain ⟨rfl, N109q, e109⟩ := hQ109
        have N109 := Fr.app N108 N109q
        obtain ⟨cq110, kq110, q110a, q110b, q110c⟩ := isOf hZ e109 E108o
        obtain ⟨_, _, ⟨T110, L110, k110, n110⟩, -, X110, ⟨Lc110, hQ110, l110, y110, z110⟩, st110⟩ := X109.virtualBack hx (y := (⟨"com/example/trusted_cut/trustedcut/program/Selections", "more", "()Lcom/example/trusted_cut/trustedcut/program/Choice;"⟩ : MethodName)) (z := (⟨"com/example/trusted_cut/trustedcut/program/Selections", "more", "()Lcom/example/trusted_cut/trustedcut/program/Choice;"⟩ : MethodName)) hown (mvT hZ (hw _ (List.mem_of_getElem? (i := 101) rfl))) (mvT hZ (hw _ (List.mem_of_getElem? (i := 102) rfl))) (notFace_of_selects (args := #[]) (mvT hZ (hw _ (List.mem_of_getElem? (i := 104) rfl)))) (mvT hZ (hw _ (List.mem_of_getElem? (i := 104) rfl))) (mvT hZ (hw _ (List.mem_of_getElem? (i := 103) rfl))) (by decide) (backOf (W := 0) (rmMO l Z a0 hw [] b2 T108.heap n0 Z108 F108_3) hZ (hw _ (List.mem_of_getElem? (i := 105) rfl)) (hw _ (List.mem_of_getElem? (i := 2) rfl)) (by decide) (by decide)) q110a q110c (g := (mkF m 165 #[.val (.int p0), .val (.int n), .val (.ref b2), .val (.ref b4), .val (.ref b11), .val (.ref b19), .val (.ref b28), .val (.ref b39), .val (.int (1 : Int32)), .val (.int (1 : Int32)), .unset] [(.ref b2)])) rfl (by rw [hml]; rfl) (Steps.refl _) (argsL := []) (rest := []) (lenOf pd_7 rfl) rfl (by show 2 * 0 + _ ≤ _; exact Nat.le_of_eq rfl) (hb hby at_165) (fun _ _ => ⟨rfl, e109, (by decide : 11 + 0 ≤ _), (by decide : 112 + 0 ≤ _)⟩)
        dsimp only [Pt.U, Pt.locs, Pt.cells, Pt.slots] at X110 l110 y110 z110 st110 hQ110
        subst l110 y110 z110
        obtain ⟨rfl, N110q, e110⟩ := hQ110
        have N110 := Fr.app N109 N110q
        obtain ⟨fs, hr, hrun, hended, hW, hsame⟩ := X110.leave (v := some (.int (1 : Int32))) (fun h => by rw [Bd.returns] at h; cases h)
        refine ⟨_, _, pre87 _ ?_, hrun, hended, _, _, rfl, ?_, ⟨_, rfl⟩, hW, hsame.mono (by decide) (by decide)⟩
        · show Steps p.tables e below (T81.setTop (mkF m 92 #[.val (.int p0), .val (.int n), .val (.ref b2), .val (.ref b4), .val (.ref b11), .val (.ref b19), .val (.ref b28), .val (.ref b39), .unset, .unset, .unset] [(.int (3 : Int32)), (.int n)])) _
          refine XS.icmpNo X81.here hx rfl (hb hby at_92) rfl (flt (show ¬ (n < (3 : Int32)) from hc92)).1 ?_
          show Steps p.tables e below (T81.setTop (mkF m 95 #[.val (.int p0), .val (.int n), .val (.ref b2), .val (.ref b4), .val (.ref b11), .val (.ref b19), .val (.ref b28), .val (.ref b39), .unset, .unset, .unset] [])) _
          refine XS.aloadN X81.here hx rfl (hb hby at_95) rfl rfl ?_
          show Steps p.tables e below (T81.setTop (mkF m 96 #[.val (.int p0), .val (.int n), .val (.ref b2), .val (.ref b4), .val (.ref b11), .val (.ref b19), .val (.ref b28), .val (.ref b39), .unset, .unset, .unset] [(.ref b2)])) _
          refine XS.aload X81.here hx rfl (hb hby at_96) rfl rfl ?_
          show Steps p.tables e below (T81.setTop (mkF m 98 #[.val (.int p0), .val (.int n), .val (.ref b2), .val (.ref b4), .val (.ref b11), .val (.ref b19), .val (.ref b28), .val (.ref b39), .unset, .unset, .unset] [(.ref b39), (.ref b2)])) _
          refine XS.aload X81.here hx rfl (hb hby at_98) rfl rfl ?_
          show Steps p.tables e below (T81.setTop (mkF m 100 #[.val (.int p0), .val (.int n), .val (.ref b2), .val (.ref b4), .val (.ref b11), .val (.ref b19), .val (.ref b28), .val (.ref b39), .unset, .unset, .unset] [(.ref b11), (.ref b39), (.ref b2)])) _
          refine st98.trans ?_
          show Steps p.tables e below (T98.setTop (mkF m 103 #[.val (.int p0), .val (.int n), .val (.ref b2), .val (.ref b4), .val (.ref b11), .val (.ref b19), .val (.ref b28), .val (.ref b39), .unset, .unset, .unset] [])) _
          refine XS.aloadN X98.here hx rfl (hb hby at_103) rfl rfl ?_
          show Steps p.tables e below (T98.setTop (mkF m 104 #[.val (.int p0), .val (.int n), .val (.ref b2), .val (.ref b4), .val (.ref b11), .val (.ref b19), .val (.ref b28), .val (.ref b39), .unset, .unset, .unset] [(.ref b2)])) _
          refine st101.trans ?_
          show Steps p.tables e below (T101.setTop (mkF m 107 #[.val (.int p0), .val (.int n), .val (.ref b2), .val (.ref b4), .val (.ref b11), .val (.ref b19), .val (.ref b28), .val (.ref b39), .unset, .unset, .unset] [])) _
          refine XS.aloadN X101.here hx rfl (hb hby at_107) rfl rfl ?_
          show Steps p.tables e below (T101.setTop (mkF m 108 #[.val (.int p0), .val (.int n), .val (.ref b2), .val (.ref b4), .val (.ref b11), .val (.ref b19), .val (.ref b28), .val (.ref b39), .unset, .unset, .unset] [(.ref b2)])) _
          refine st102.trans ?_
          show Steps p.tables e below (T102.setTop (mkF m 111 #[.val (.int p0), .val (.int n), .val (.ref b2), .val (.ref b4), .val (.ref b11), .val (.ref b19), .val (.ref b28), .val (.ref b39), .unset, .unset, .unset] [.null])) _
          refine XS.ifnonnullNo X102.here hx rfl (hb hby at_111) rfl ?_
          show Steps p.tables e below (T102.setTop (mkF m 114 #[.val (.int p0), .val (.int n), .val (.ref b2), .val (.ref b4), .val (.ref b11), .val (.ref b19), .val (.ref b28), .val (.ref b39), .unset, .unset, .unset] [])) _
          refine XS.aloadN X102.here hx rfl (hb hby at_114) rfl rfl ?_
          show Steps p.tables e below (T102.setTop (mkF m 115 #[.val (.int p0), .val (.int n), .val (.ref b2), .val (.ref b4), .val (.ref b11), .val (.ref b19), .val (.ref b28), .val (.ref b39), .unset, .unset, .unset] [(.ref b2)])) _
          refine st103.trans ?_
          show Steps p.tables e below (T103.setTop (mkF m 118 #[.val (.int p0), .val (.int n), .val (.ref b2), .val (.ref b4), .val (.ref b11), .val (.ref b19), .val (.ref b28), .val (.ref b39), .unset, .unset, .unset] [.null])) _
          refine XS.ifnonnullNo X103.here hx rfl (hb hby at_118) rfl ?_
          show Steps p.tables e below (T103.setTop (mkF m 121 #[.val (.int p0), .val (.int n), .val (.ref b2), .val (.ref b4), .val (.ref b11), .val (.ref b19), .val (.ref b28), .val (.ref b39), .unset, .unset, .unset] [])) _
          refine XS.iconst X103.here hx rfl (hb hby at_121) ?_
          show Steps p.tables e below (T103.setTop (mkF m 122 #[.val (.int p0), .val (.int n), .val (.ref b2), .val (.ref b4), .val (.ref b11), .val (.ref b19), .val (.ref b28), .val (.ref b39), .unset, .unset, .unset] [(.int (1 : Int32))])) _
          refine XS.goto X103.here hx rfl (pc0 := 122) (pc' := 126) rfl (hb hby at_122) (by decide) (by decide) ?_
          show Steps p.tables e below (T103.setTop (mkF m 126 #[.val (.int p0), .val (.int n), .val (.ref b2), .val (.ref b4), .val (.ref b11), .val (.ref b19), .val (.ref b28), .val (.ref b39), .unset, .unset, .unset] [(.int (1 : Int32))])) _
          refine XS.istore X103.here hx rfl (hb hby at_126) rfl (l' := #[.val (.int p0), .val (.int n), .val (.ref b2), .val (.ref b4), .val (.ref b11), .val (.ref b19), .val (.ref b28), .val (.ref b39), .val (.int (1 : Int32)), .unset, .unset]) rfl ?_
          show Steps p.tables e below (T103.setTop (mkF m 128 #[.val (.int p0), .val (.int n), .val (.ref b2), .val (.ref b4), .val (.ref b11), .val (.ref b19), .val (.ref b28), .val (.ref b39), .val (.int (1 : Int32)), .unset, .unset] [])) _
          refine XS.aloadN X103.here hx rfl (hb hby at_128) rfl rfl ?_
          show Steps p.tables e below (T103.setTop (mkF m 129 #[.val (.int p0), .val (.int n), .val (.ref b2), .val (.ref b4), .val (.ref b11), .val (.ref b19), .val (.ref b28), .val (.ref b39), .val (.int (1 : Int32)), .unset, .unset] [(.ref b2)])) _
          refine XS.aloadN X103.here hx rfl (hb hby at_129) rfl rfl ?_
          show Steps p.tables e below (T103.setTop (mkF m 130 #[.val (.int p0), .val (.int n), .val (.ref b2), .val (.ref b4), .val (.ref b11), .val (.ref b19), .val (.ref b28), .val (.ref b39), .val (.int (1 : Int32)), .unset, .unset] [(.ref b4), (.ref b2)])) _
          refine st104.trans ?_
          show Steps p.tables e below (T104.setTop (mkF m 133 #[.val (.int p0), .val (.int n), .val (.ref b2), .val (.ref b4), .val (.ref b11), .val (.ref b19), .val (.ref b28), .val (.ref b39), .val (.int (1 : Int32)), .unset, .unset] [])) _
          refine XS.aloadN X104.here hx rfl (hb hby at_133) rfl rfl ?_
          show Steps p.tables e below (T104.setTop (mkF m 134 #[.val (.int p0), .val (.int n), .val (.ref b2), .val (.ref b4), .val (.ref b11), .val (.ref b19), .val (.ref b28), .val (.ref b39), .val (.int (1 : Int32)), .unset, .unset] [(.ref b4)])) _
          refine st105.trans ?_
          show Steps p.tables e below (T105.setTop (mkF m 137 #[.val (.int p0), .val (.int n), .val (.ref b2), .val (.ref b4), .val (.ref b11), .val (.ref b19), .val (.ref b28), .val (.ref b39), .val (.int (1 : Int32)), .unset, .unset] [(.int (0 : Int32))])) _
          refine XS.ifNo X105.here hx rfl (hb hby at_137) rfl ((if0 _ _).trans (teq (show (0 : Int32) = (0 : Int32) from (by decide))).2) ?_
          show Steps p.tables e below (T105.setTop (mkF m 140 #[.val (.int p0), .val (.int n), .val (.ref b2), .val (.ref b4), .val (.ref b11), .val (.ref b19), .val (.ref b28), .val (.ref b39), .val (.int (1 : Int32)), .unset, .unset] [])) _
          refine XS.iconst X105.here hx rfl (hb hby at_140) ?_
          show Steps p.tables e below (T105.setTop (mkF m 141 #[.val (.int p0), .val (.int n), .val (.ref b2), .val (.ref b4), .val (.ref b11), .val (.ref b19), .val (.ref b28), .val (.ref b39), .val (.int (1 : Int32)), .unset, .unset] [(.int (1 : Int32))])) _
          refine XS.goto X105.here hx rfl (pc0 := 141) (pc' := 145) rfl (hb hby at_141) (by decide) (by decide) ?_
          show Steps p.tables e below (T105.setTop (mkF m 145 #[.val (.int p0), .val (.int n), .val (.ref b2), .val (.ref b4), .val (.ref b11), .val (.ref b19), .val (.ref b28), .val (.ref b39), .val (.int (1 : Int32)), .unset, .unset] [(.int (1 : Int32))])) _
          refine XS.istore X105.here hx rfl (hb hby at_145) rfl (l' := #[.val (.int p0), .val (.int n), .val (.ref b2), .val (.ref b4), .val (.ref b11), .val (.ref b19), .val (.ref b28), .val (.ref b39), .val (.int (1 : Int32)), .val (.int (1 : Int32)), .unset]) rfl ?_
          show Steps p.tables e below (T105.setTop (mkF m 147 #[.val (.int p0), .val (.int n), .val (.ref b2), .val (.ref b4), .val (.ref b11), .val (.ref b19), .val (.ref b28), .val (.ref b39), .val (.int (1 : Int32)), .val (.int (1 : Int32)), .unset] [])) _
          refine XS.aloadN X105.here hx rfl (hb hby at_147) rfl rfl ?_
          show Steps p.tables e below (T105.setTop (mkF m 148 #[.val (.int p0), .val (.int n), .val (.ref b2), .val (.ref b4), .val (.ref b11), .val (.ref b19), .val (.ref b28), .val (.ref b39), .val (.int (1 : Int32)), .val (.int (1 : Int32)), .unset] [(.ref b2)])) _
          refine XS.aload X105.here hx rfl (hb hby at_148) rfl rfl ?_
          show Steps p.tables e below (T105.setTop (mkF m 150 #[.val (.int p0), .val (.int n), .val (.ref b2), .val (.ref b4), .val (.ref b11), .val (.ref b19), .val (.ref b28), .val (.ref b39), .val (.int (1 : Int32)), .val (.int (1 : Int32)), .unset] [(.ref b39), (.ref b2)])) _
          refine XS.aload X105.here hx rfl (hb hby at_150) rfl rfl ?_
          show Steps p.tables e below (T105.setTop (mkF m 152 #[.val (.int p0), .val (.int n), .val (.ref b2), .val (.ref b4), .val (.ref b11), .val (.ref b19), .val (.ref b28), .val (.ref b39), .val (.int (1 : Int32)), .val (.int (1 : Int32)), .unset] [(.ref b19), (.ref b39), (.ref b2)])) _
          refine st108.trans ?_
          show Steps p.tables e below (T108.setTop (mkF m 155 #[.val (.int p0), .val (.int n), .val (.ref b2), .val (.ref b4), .val (.ref b11), .val (.ref b19), .val (.ref b28), .val (.ref b39), .val (.int (1 : Int32)), .val (.int (1 : Int32)), .unset] [])) _
          refine XS.aloadN X108.here hx rfl (hb hby at_155) rfl rfl ?_
          show Steps p.tables e below (T108.setTop (mkF m 156 #[.val (.int p0), .val (.int n), .val (.ref b2), .val (.ref b4), .val (.ref b11), .val (.ref b19), .val (.ref b28), .val (.ref b39), .val (.int (1 : Int32)), .val (.int (1 : Int32)), .unset] [(.ref b2)])) _
          refine st109.trans ?_
          show Steps p.tables e below (T109.setTop (mkF m 159 #[.val (.int p0), .val (.int n), .val (.ref b2), .val (.ref b4), .val (.ref b11), .val (.ref b19), .val (.ref b28), .val (.ref b39), .val (.int (1 : Int32)), .val (.int (1 : Int32)), .unset] [(.ref b19)])) _
          refine XS.aload X109.here hx rfl (hb hby at_159) rfl rfl ?_
          show Steps p.tables e below (T109.setTop (mkF m 161 #[.val (.int p0), .val (.int n), .val (.ref b2), .val (.ref b4), .val (.ref b11), .val (.ref b19), .val (.ref b28), .val (.ref b39), .val (.int (1 : Int32)), .val (.int (1 : Int32)), .unset] [(.ref b19), (.ref b19)])) _
          refine Jvm.RoadKit.acmp (g := (mkF m 161 #[.val (.int p0), .val (.int n), .val (.ref b2), .val (.ref b4), .val (.ref b11), .val (.ref b19), .val (.ref b28), .val (.ref b39), .val (.int (1 : Int32)), .val (.int (1 : Int32)), .unset] [(.ref b19), (.ref b19)])) X109 hx rfl rfl rfl (pc0 := 161) (pc' := 164) (same := true) rfl (hb hby at_161) rfl (decide_eq_true rfl) (by decide) (by decide) ?_
          show Steps p.tables e below (T109.setTop (mkF m 164 #[.val (.int p0), .val (.int n), .val (.ref b2), .val (.ref b4), .val (.ref b11), .val (.ref b19), .val (.ref b28), .val (.ref b39), .val (.int (1 : Int32)), .val (.int (1 : Int32)), .unset] [])) _
          refine XS.aloadN X109.here hx rfl (hb hby at_164) rfl rfl ?_
          show Steps p.tables e below (T109.setTop (mkF m 165 #[.val (.int p0), .val (.int n), .val (.ref b2), .val (.ref b4), .val (.ref b11), .val (.ref b19), .val (.ref b28), .val (.ref b39), .val (.int (1 : Int32)), .val (.int (1 : Int32)), .unset] [(.ref b2)])) _
          refine st110.trans ?_
          show Steps p.tables e below (T110.setTop (mkF m 168 #[.val (.int p0), .val (.int n), .val (.ref b2), .val (.ref b4), .val (.ref b11), .val (.ref b19), .val (.ref b28), .val (.ref b39), .val (.int (1 : Int32)), .val (.int (1 : Int32)), .unset] [.null])) _
          refine XS.ifnonnullNo X110.here hx rfl (hb hby at_168) rfl ?_
          show Steps p.tables e below (T110.setTop (mkF m 171 #[.val (.int p0), .val (.int n), .val (.ref b2), .val (.ref b4), .val (.ref b11), .val (.ref b19), .val (.ref b28), .val (.ref b39), .val (.int (1 : Int32)), .val (.int (1 : Int32)), .unset] [])) _
          refine XS.iconst X110.here hx rfl (hb hby at_171) ?_
          show Steps p.tables e below (T110.setTop (mkF m 172 #[.val (.int p0), .val (.int n), .val (.ref b2), .val (.ref b4), .val (.ref b11), .val (.ref b19), .val (.ref b28), .val (.ref b39), .val (.int (1 : Int32)), .val (.int (1 : Int32)), .unset] [(.int (1 : Int32))])) _
          refine XS.goto X110.here hx rfl (pc0 := 172) (pc' := 176) rfl (hb hby at_172) (by decide) (by decide) ?_
          show Steps p.tables e below (T110.setTop (mkF m 176 #[.val (.int p0), .val (.int n), .val (.ref b2), .val (.ref b4), .val (.ref b11), .val (.ref b19), .val (.ref b28), .val (.ref b39), .val (.int (1 : Int32)), .val (.int (1 : Int32)), .unset] [(.int (1 : Int32))])) _
          refine XS.istore X110.here hx rfl (hb hby at_176) rfl (l' := #[.val (.int p0), .val (.int n), .val (.ref b2), .val (.ref b4), .val (.ref b11), .val (.ref b19), .val (.ref b28), .val (.ref b39), .val (.int (1 : Int32)), .val (.int (1 : Int32)), .val (.int (1 : Int32))]) rfl ?_
          show Steps p.tables e below (T110.setTop (mkF m 178 #[.val (.int p0), .val (.int n), .val (.ref b2), .val (.ref b4), .val (.ref b11), .val (.ref b19), .val (.ref b28), .val (.ref b39), .val (.int (1 : Int32)), .val (.int (1 : Int32)), .val (.int (1 : Int32))] [])) _
          refine XS.iload X110.here hx rfl (hb hby at_178) rfl ?_
          show Steps p.tables e below (T110.setTop (mkF m 180 #[.val (.int p0), .val (.int n), .val (.ref b2), .val (.ref b4), .val (.ref b11), .val (.ref b19), .val (.ref b28), .val (.ref b39), .val (.int (1 : Int32)), .val (.int (1 : Int32)), .val (.int (1 : Int32))] [(.int (1 : Int32))])) _
          refine XS.ifNo X110.here hx rfl (hb hby at_180) rfl ((if0 _ _).trans (feq (show ¬ ((1 : Int32) = (0 : Int32)) from (by decide))).1) ?_
          show Steps p.tables e below (T110.setTop (mkF m 183 #[.val (.int p0), .val (.int n), .val (.ref b2), .val (.ref b4), .val (.ref b11), .val (.ref b19), .val (.ref b28), .val (.ref b39), .val (.int (1 : Int32)), .val (.int (1 : Int32)), .val (.int (1 : Int32))] [])) _
          refine XS.iload X110.here hx rfl (hb hby at_183) rfl ?_
          show Steps p.tables e below (T110.setTop (mkF m 185 #[.val (.int p0), .val (.int n), .val (.ref b2), .val (.ref b4), .val (.ref b11), .val (.ref b19), .val (.ref b28), .val (.ref b39), .val (.int (1 : Int32)), .val (.int (1 : Int32)), .val (.int (1 : Int32))] [(.int (1 : Int32))])) _
          refine XS.ifNo X110.here hx rfl (hb hby at_185) rfl ((if0 _ _).trans (feq (show ¬ ((1 : Int32) = (0 : Int32)) from (by decide))).1) ?_
          show Steps p.tables e below (T110.setTop (mkF m 188 #[.val (.int p0), .val (.int n), .val (.ref b2), .val (.ref b4), .val (.ref b11), .val (.ref b19), .val (.ref b28), .val (.ref b39), .val (.int (1 : Int32)), .val (.int (1 : Int32)), .val (.int (1 : Int32))] [])) _
          refine XS.iload X110.here hx rfl (hb hby at_188) rfl ?_
          show Steps p.tables e below (T110.setTop (mkF m 190 #[.val (.int p0), .val (.int n), .val (.ref b2), .val (.ref b4), .val (.ref b11), .val (.ref b19), .val (.ref b28), .val (.ref b39), .val (.int (1 : Int32)), .val (.int (1 : Int32)), .val (.int (1 : Int32))] [(.int (1 : Int32))])) _
          refine XS.ifNo X110.here hx rfl (hb hby at_190) rfl ((if0 _ _).trans (feq (show ¬ ((1 : Int32) = (0 : Int32)) from (by decide))).1) ?_
          show Steps p.tables e below (T110.setTop (mkF m 193 #[.val (.int p0), .val (.int n), .val (.ref b2), .val (.ref b4), .val (.ref b11), .val (.ref b19), .val (.ref b28), .val (.ref b39), .val (.int (1 : Int32)), .val (.int (1 : Int32)), .val (.int (1 : Int32))] [])) _
          refine XS.iconst X110.here hx rfl (hb hby at_193) ?_
          show Steps p.tables e below (T110.setTop (mkF m 194 #[.val (.int p0), .val (.int n), .val (.ref b2), .val (.ref b4), .val (.ref b11), .val (.ref b19), .val (.ref b28), .val (.ref b39), .val (.int (1 : Int32)), .val (.int (1 : Int32)), .val (.int (1 : Int32))] [(.int (1 : Int32))])) _
          refine XS.goto X110.here hx rfl (pc0 := 194) (pc' := 198) rfl (hb hby at_194) (by decide) (by decide) ?_
          show Steps p.tables e below (T110.setTop (mkF m 198 #[.val (.int p0), .val (.int n), .val (.ref b2), .val (.ref b4), .val (.ref b11), .val (.ref b19), .val (.ref b28), .val (.ref b39), .val (.int (1 : Int32)), .val (.int (1 : Int32)), .val (.int (1 : Int32))] [(.int (1 : Int32))])) _
          exact retN X110 hx (t := .boolean) Bd.returns (by simp) (hb hby at_198) hr
        · show Q0 h0 n0 _ T110.heap _
          rw [e110]
          exact ⟨rfl, N110⟩
set_option maxRecDepth 65536 in
set_option maxHeartbeats 40000000 in
theorem comes_1 {Post : Tables → Env → Array Value → State → Outcome → State → Prop} (hpost : ∀ tb e args s v u, (limb_1_1.after args s (.returned v) u = true ∧ limb_1_2.after args s (.returned v) u = true ∧ True) → FrameEnd s (.returned v) u (Jvm.fieldLocs frame_1_writes args s ++ Jvm.arrayLocs frame_1_arrays args s ++ Jvm.staticLocs frame_1_statics s) 32 320 → Post tb e args s (.returned v) u) :
    ArmFor flags0 classFile x code maxLocals ret World_1 tables_1 room_1 Calls_1 rest_1 Pre_1 Post := by
  intro l hfl _ _ p e ha hc hk s m args below hf hA hF happ hP
  obtain ⟨hcalls, hrest, hpre⟩ := hP
  obtain ⟨-, -, -, hnamed, -, -, -, hat⟩ := (Spec.applies_iff hf).mp happ
  obtain ⟨hg, hn⟩ := and_e (Cond.before_iff.mp (show (Jvm.Cond.and given_1 narrow_1).before args s = true from hpre))
  obtain ⟨hcnt, hg1⟩ := and_e hg
  have ha0 := hg1
  obtain ⟨w0, rfl⟩ : ∃ w0 : Value, args = #[w0] := by
    have hs : args.size = 1 := by simpa [Cond.value, given_1] using hcnt
    obtain ⟨L⟩ := args
    match L, hs with
    | [w0], _ => exact ⟨w0, rfl⟩
  have hw := fun d (hd : d ∈ tables_1) => atoms_spec (ws := Jvm.Cond.code x code maxLocals ret :: tables_1) hat d (List.mem_cons_of_mem _ hd)
  have hfit : Fit s := fun {y c} hc i hi => by
    obtain ⟨ha, rfl⟩ := Array.getElem?_eq_some_iff.mp hc
    have q := List.all_eq_true.mp ((Array.all_eq_true_iff_forall_mem.mp hF) _ (Array.getElem_mem ha)) i (List.mem_range.mpr hi)
    simpa [Array.getElem?_eq_getElem hi] using q
  obtain ⟨hsets, hown0⟩ := atoms_of _ (rest_1_c_eq ▸ (show rest_1_c.before _ s = true from hrest))
  have hr0 := Cond.before_iff.mp hown0
  obtain ⟨i0, ei0⟩ := is_v ha0
  obtain rfl : w0 = (.int i0) := Option.some.inj ei0
  obtain ⟨hn0, hn1⟩ := and_e hn
  obtain ⟨bN, evN⟩ := arr_v hn0
  have SN := Sta.start evN (Or.inr ⟨(hw _ (List.mem_of_getElem? (i := 68) rfl)), (hw _ (List.mem_of_getElem? (i := 70) rfl))⟩)
  obtain ⟨bD, evD⟩ := arr_v (Cond.before_iff.mp (hsets _ (List.mem_of_getElem? (i := 6) rfl)))
  have SD := Sta.start evD (Or.inr ⟨(hw _ (List.mem_of_getElem? (i := 44) rfl)), hsets _ (List.mem_of_getElem? (i := 2) rfl)⟩)
  obtain ⟨n, o, h1, h2, h3, _, L, rfl, ⟨rfl, N⟩, hq⟩ := rm0 l s _ hw tables_1 i0 bN bD s.heap s.heap.size (Nat.le_refl _) SN SD p e ha hc hk s m _ below hf ((Spec.applies_iff_loose hf).mp happ).1 ⟨rfl, State.Warmed39.refl s, rfl⟩ trivial
  refine ⟨n, _, h1, h2, h3, hpost _ _ _ _ _ _ ⟨Cond.after_iff.mpr rfl, Cond.after_iff.mpr (eq_i res_at (Term.int_eval (1)) rfl), trivial⟩ ⟨hq.1, hq.2.1, (hq.2.2.sift fun y hy => Or.inr (N y hy)).mono (by decide) (by decide)⟩⟩
theorem main_1_1 : Claimed_1_1 := comes_1 fun _ _ _ _ _ _ h hF => ⟨h.1, hF⟩
theorem main_1_2 : Claimed_1_2 := comes_1 fun _ _ _ _ _ _ h hF => ⟨h.2.1, hF⟩
end Jvm.Pilot.@@N@@
namespace Jvm.Pilot.@@N@@
open Jvm Jvm.ClassFile Sem Op Lib Jvm.Free Jvm.Stand Jvm.Pilot.@@N@@.Jvm.D
/-! MADE BY PROGRAM (witnessworld.py) out of the Statement's table words and the real class files: 28 classes; the members and pool entries that the words name. The judged class is class 1, her method 1. -/
namespace start1
open Jvm.ClassFile
def u (s : String) : CpInfo := .utf8 (stringToUtf16 s)
/-- a pool by its gaps: so many unusable entries, then the entry; so many at the end -/
def gap : Nat → List CpInfo → List CpInfo
  | 0, r => r
  | n + 1, r => .unusable :: gap n r
def poolList (es : List (Nat × CpInfo)) (last : Nat) : List CpInfo := es.foldr (fun e r => gap e.1 (e.2 :: r)) (gap last [])
def pool (es : List (Nat × CpInfo)) (last : Nat) : Array CpInfo := ⟨poolList es last⟩
def fileOf (pool : Array CpInfo) (this : Nat) (attrs : Array Attribute := #[]) (ms : Array MethodInfo := #[]) (fl : Nat := 33) (sup : Nat := 0) (ifs : Array Nat := #[]) (fds : Array FieldInfo := #[]) : ClassFile where
  minorVersion := 0
  majorVersion := 65
  constantPool := pool
  accessFlags := fl
  thisClass := this
  superClass := sup
  interfaces := ifs
  fields := fds
  methods := ms
  attributes := attrs
def plain (name : String) (sup : Option ClassId) : Class where
  name := name
  kind := .ordinary
  loader := none
  accessFlags := 33
  super := sup
  interfaces := #[]
  cf := none
  fields := #[]
  methods := #[]
  instanceTypes := #[]
  staticTypes := #[]
  resolved := #[]
  callSites := []
  init := .initialized
  statics := none
  mirror := none

def pool0 : Array CpInfo := pool [(5, u "<init>"), (0, u "()V"), (1, .class_ 10), (1, u "java/lang/Object")] 113

def k0c0 : Code := { maxStack := 0, maxLocals := 1, code := object_method_1_code, exceptionTable := #[], attributes := #[] }
def k0m0 : Method := { name := "<init>", desc := "()V", sig := { parameters := [], returnType := none }, accessFlags := 1, code := some k0c0 }
/-- java/lang/Object -/
def k0 : Class := { plain "java/lang/Object" none with
  accessFlags := 33
  interfaces := #[]
  cf := some (fileOf pool0 8 #[] #[{ accessFlags := 1, nameIndex := 5, descriptorIndex := 6, attributes := #[] }] 33 0 #[] #[])
  fields := #[]
  methods := #[k0m0]
  instanceTypes := #[]
  staticTypes := #[]
  resolved := Array.replicate 124 none
  statics := none }

def pool1 : Array CpInfo := pool [(2, .class_ 4), (0, .nameAndType 5 6), (0, u "java/lang/Object"), (0, u "<init>"), (0, u "()V"), (0, .class_ 8), (0, u "com/example/trusted_cut/trustedcut/program/Selections"), (0, .methodref 7 3), (0, .class_ 11), (0, u "com/example/trusted_cut/trustedcut/program/Bindings"), (0, .methodref 10 3), (0, .class_ 14), (0, u "java/util/ArrayList"), (0, .methodref 13 3), (0, .class_ 17), (0, u "com/example/trusted_cut/trustedcut/program/Unifier"), (0, .fieldref 16 19), (0, .nameAndType 20 21), (0, u "NONE"), (0, u "[Lcom/example/trusted_cut/trustedcut/term/Term;"), (0, .methodref 16 23), (0, .nameAndType 5 24), (0, u "(I[Lcom/example/trusted_cut/trustedcut/term/Term;)V"), (0, .methodref 7 26), (0, .nameAndType 27 28), (0, u "add"), (0, u "(Lcom/example/trusted_cut/trustedcut/program/Unifier;Ljava/util/List;)V"), (0, .methodref 7 30), (0, .nameAndType 31 6), (0, u "clear"), (0, .methodref 7 33), (0, .nameAndType 34 35), (0, u "goals"), (0, u "()Ljava/util/List;"), (0, .methodref 7 37), (0, .nameAndType 38 39), (0, u "more"), (0, u "()Lcom/example/trusted_cut/trustedcut/program/Choice;"), (0, .methodref 7 41), (0, .nameAndType 42 43), (0, u "enterFirst"), (0, u "(Lcom/example/trusted_cut/trustedcut/program/Bindings;)V"), (0, .methodref 10 45), (0, .nameAndType 46 47), (0, u "mark"), (0, u "()I"), (0, .class_ 49), (0, u "com/example/trusted_cut/trustedcut/program/SelectionsClearPinLaw"), (2, u "law"), (0, u "(I)Z")] 3

def k1m0 : Method := { name := "<init>", desc := "()V", sig := { parameters := [], returnType := none }, accessFlags := 1, code := none }
def k1c1 : Code := { maxStack := 4, maxLocals := 11, code := code, exceptionTable := #[], attributes := #[] }
def k1m1 : Method := { name := "law", desc := "(I)Z", sig := { parameters := [.int], returnType := some .boolean }, accessFlags := 9, code := some k1c1 }
/-- com/example/trusted_cut/trustedcut/program/SelectionsClearPinLaw -/
def k1 : Class := { plain "com/example/trusted_cut/trustedcut/program/SelectionsClearPinLaw" (some 0) with
  accessFlags := 49
  interfaces := #[]
  cf := some (fileOf pool1 48 #[] #[{ accessFlags := 1, nameIndex := 5, descriptorIndex := 6, attributes := #[] }, { accessFlags := 9, nameIndex := 52, descriptorIndex := 53, attributes := #[] }] 49 2 #[] #[])
  fields := #[]
  methods := #[k1m0, k1m1]
  instanceTypes := #[]
  staticTypes := #[]
  resolved := Array.replicate 57 none
  statics := none }

def pool2 : Array CpInfo := pool [(1, .methodref 2 3), (0, .class_ 4), (0, .nameAndType 5 6), (0, u "java/lang/Object"), (0, u "<init>"), (0, u "()V"), (0, .fieldref 8 9), (0, .class_ 10), (0, .nameAndType 11 12), (0, u "com/example/trusted_cut/trustedcut/program/Selections"), (0, u "size"), (0, u "I"), (0, .fieldref 8 14), (0, .nameAndType 15 16), (0, u "firstGoals"), (0, u "Ljava/util/List;"), (0, .fieldref 8 18), (0, .nameAndType 19 20), (0, u "more"), (0, u "Lcom/example/trusted_cut/trustedcut/program/Choice;"), (0, .fieldref 8 22), (0, .nameAndType 23 24), (0, u "firstUnifier"), (0, u "Lcom/example/trusted_cut/trustedcut/program/Unifier;"), (0, .fieldref 8 26), (0, .nameAndType 27 20), (0, u "last"), (0, .class_ 29), (0, u "com/example/trusted_cut/trustedcut/program/Choice"), (0, .methodref 28 31), (0, .nameAndType 5 32), (0, u "(Lcom/example/trusted_cut/trustedcut/program/Unifier;Ljava/util/List;Lcom/example/trusted_cut/trustedcut/program/ClauseWalk;)V"), (0, .methodref 28 34), (0, .nameAndType 35 36), (0, u "unifier"), (0, u "()Lcom/example/trusted_cut/trustedcut/program/Unifier;"), (0, .methodref 38 39), (0, .class_ 40), (0, .nameAndType 41 42), (0, u "com/example/trusted_cut/trustedcut/program/Unifier"), (0, u "sharingMarkOf"), (0, u "(Lcom/example/trusted_cut/trustedcut/program/Unifier;)Lcom/example/trusted_cut/trustedcut/program/Unifier;"), (0, .methodref 28 44), (0, .nameAndType 45 46), (0, u "follow"), (0, u "(Lcom/example/trusted_cut/trustedcut/program/Choice;)V"), (16, u "add"), (0, u "(Lcom/example/trusted_cut/trustedcut/program/Unifier;Ljava/util/List;)V"), (7, u "(Lcom/example/trusted_cut/trustedcut/program/Bindings;)V"), (4, u "goals"), (0, u "()Ljava/util/List;"), (4, u "()Lcom/example/trusted_cut/trustedcut/program/Choice;"), (0, u "clear"), (4, u "enterFirst")] 2

def k2c0 : Code := { maxStack := 1, maxLocals := 1, code := prog_73_method_1_code, exceptionTable := #[], attributes := #[] }
def k2m0 : Method := { name := "<init>", desc := "()V", sig := { parameters := [], returnType := none }, accessFlags := 1, code := some k2c0 }
def k2c1 : Code := { maxStack := 1, maxLocals := 1, code := prog_73_method_2_code, exceptionTable := #[], attributes := #[] }
def k2m1 : Method := { name := "goals", desc := "()Ljava/util/List;", sig := { parameters := [], returnType := some (.object "java/util/List") }, accessFlags := 0, code := some k2c1 }
def k2c2 : Code := { maxStack := 1, maxLocals := 1, code := prog_73_method_3_code, exceptionTable := #[], attributes := #[] }
def k2m2 : Method := { name := "more", desc := "()Lcom/example/trusted_cut/trustedcut/program/Choice;", sig := { parameters := [], returnType := some (.object "com/example/trusted_cut/trustedcut/program/Choice") }, accessFlags := 1, code := some k2c2 }
def k2c3 : Code := { maxStack := 2, maxLocals := 1, code := prog_73_method_4_code, exceptionTable := #[], attributes := #[] }
def k2m3 : Method := { name := "clear", desc := "()V", sig := { parameters := [], returnType := none }, accessFlags := 0, code := some k2c3 }
def k2c4 : Code := { maxStack := 6, maxLocals := 4, code := prog_73_method_5_code, exceptionTable := #[], attributes := #[] }
def k2m4 : Method := { name := "add", desc := "(Lcom/example/trusted_cut/trustedcut/program/Unifier;Ljava/util/List;)V", sig := { parameters := [(.object "com/example/trusted_cut/trustedcut/program/Unifier"), (.object "java/util/List")], returnType := none }, accessFlags := 0, code := some k2c4 }
def k2c5 : Code := { maxStack := 2, maxLocals := 2, code := prog_73_method_8_code, exceptionTable := #[], attributes := #[] }
def k2m5 : Method := { name := "enterFirst", desc := "(Lcom/example/trusted_cut/trustedcut/program/Bindings;)V", sig := { parameters := [(.object "com/example/trusted_cut/trustedcut/program/Bindings")], returnType := none }, accessFlags := 0, code := some k2c5 }
/-- com/example/trusted_cut/trustedcut/program/Selections -/
def k2 : Class := { plain "com/example/trusted_cut/trustedcut/program/Selections" (some 0) with
  accessFlags := 33
  interfaces := #[]
  cf := some (fileOf pool2 8 #[] #[{ accessFlags := 1, nameIndex := 5, descriptorIndex := 6, attributes := #[] }, { accessFlags := 0, nameIndex := 77, descriptorIndex := 78, attributes := #[] }, { accessFlags := 1, nameIndex := 19, descriptorIndex := 83, attributes := #[] }, { accessFlags := 0, nameIndex := 84, descriptorIndex := 6, attributes := #[] }, { accessFlags := 0, nameIndex := 63, descriptorIndex := 64, attributes := #[] }, { accessFlags := 0, nameIndex := 89, descriptorIndex := 72, attributes := #[] }] 33 2 #[] #[{ accessFlags := 2, nameIndex := 11, descriptorIndex := 12, attributes := #[] }, { accessFlags := 2, nameIndex := 23, descriptorIndex := 24, attributes := #[] }, { accessFlags := 2, nameIndex := 15, descriptorIndex := 16, attributes := #[] }, { accessFlags := 2, nameIndex := 19, descriptorIndex := 20, attributes := #[] }, { accessFlags := 2, nameIndex := 27, descriptorIndex := 20, attributes := #[] }])
  fields := #[{ name := "size", type := .int, accessFlags := 2, slot := 0, constantValue := 0 }, { name := "firstUnifier", type := (.object "com/example/trusted_cut/trustedcut/program/Unifier"), accessFlags := 2, slot := 1, constantValue := 0 }, { name := "firstGoals", type := (.object "java/util/List"), accessFlags := 2, slot := 2, constantValue := 0 }, { name := "more", type := (.object "com/example/trusted_cut/trustedcut/program/Choice"), accessFlags := 2, slot := 3, constantValue := 0 }, { name := "last", type := (.object "com/example/trusted_cut/trustedcut/program/Choice"), accessFlags := 2, slot := 4, constantValue := 0 }]
  methods := #[k2m0, k2m1, k2m2, k2m3, k2m4, k2m5]
  instanceTypes := #[.int, (.object "com/example/trusted_cut/trustedcut/program/Unifier"), (.object "java/util/List"), (.object "com/example/trusted_cut/trustedcut/program/Choice"), (.object "com/example/trusted_cut/trustedcut/program/Choice")]
  staticTypes := #[]
  resolved := Array.replicate 92 none
  statics := none }

def pool3 : Array CpInfo := pool [(1, .methodref 2 3), (0, .class_ 4), (0, .nameAndType 5 6), (0, u "java/lang/Object"), (0, u "<init>"), (0, u "()V"), (0, .class_ 8), (0, u "java/util/HashMap"), (0, .methodref 7 3), (0, .fieldref 11 12), (0, .class_ 13), (0, .nameAndType 14 15), (0, u "com/example/trusted_cut/trustedcut/program/Bindings"), (0, u "elsewhere"), (0, u "Ljava/util/Map;"), (0, .fieldref 11 17), (0, .nameAndType 18 15), (0, u "bagEnds"), (0, .class_ 20), (0, u "com/example/trusted_cut/trustedcut/term/Var"), (0, .fieldref 11 22), (0, .nameAndType 23 24), (0, u "trail"), (0, u "[Lcom/example/trusted_cut/trustedcut/term/Var;"), (0, .fieldref 11 26), (0, .nameAndType 27 28), (0, u "compactedAt"), (0, u "I"), (21, u "()I"), (59, .fieldref 11 111), (0, .nameAndType 112 28), (0, u "trailed"), (2, u "changes"), (0, u "Lcom/example/trusted_cut/trustedcut/program/Changes;"), (26, u "compacted"), (24, u "mark"), (42, .class_ 212), (0, u "com/example/trusted_cut/trustedcut/program/Bindings$Aside"), (87, u "ENTERED_BEFORE_REMEMBERING"), (2, u "FLAT_HOLDING"), (1, u "FLAT_CLEAR"), (1, u "FIRST_COMPACTED")] 56

def k3c0 : Code := { maxStack := 3, maxLocals := 1, code := prog_31_method_1_code, exceptionTable := #[], attributes := #[] }
def k3m0 : Method := { name := "<init>", desc := "()V", sig := { parameters := [], returnType := none }, accessFlags := 1, code := some k3c0 }
def k3c1 : Code := { maxStack := 1, maxLocals := 1, code := prog_31_method_5_code, exceptionTable := #[], attributes := #[] }
def k3m1 : Method := { name := "mark", desc := "()I", sig := { parameters := [], returnType := some .int }, accessFlags := 1, code := some k3c1 }
/-- com/example/trusted_cut/trustedcut/program/Bindings -/
def k3 : Class := { plain "com/example/trusted_cut/trustedcut/program/Bindings" (some 0) with
  accessFlags := 33
  interfaces := #[]
  cf := some (fileOf pool3 11 #[.nestMembers #[211]] #[{ accessFlags := 1, nameIndex := 5, descriptorIndex := 6, attributes := #[] }, { accessFlags := 1, nameIndex := 168, descriptorIndex := 50, attributes := #[] }] 33 2 #[] #[{ accessFlags := 26, nameIndex := 300, descriptorIndex := 28, attributes := #[] }, { accessFlags := 26, nameIndex := 303, descriptorIndex := 28, attributes := #[] }, { accessFlags := 26, nameIndex := 305, descriptorIndex := 28, attributes := #[] }, { accessFlags := 26, nameIndex := 307, descriptorIndex := 28, attributes := #[] }, { accessFlags := 18, nameIndex := 14, descriptorIndex := 15, attributes := #[] }, { accessFlags := 18, nameIndex := 18, descriptorIndex := 15, attributes := #[] }, { accessFlags := 2, nameIndex := 23, descriptorIndex := 24, attributes := #[] }, { accessFlags := 2, nameIndex := 112, descriptorIndex := 28, attributes := #[] }, { accessFlags := 2, nameIndex := 115, descriptorIndex := 116, attributes := #[] }, { accessFlags := 2, nameIndex := 143, descriptorIndex := 28, attributes := #[] }, { accessFlags := 2, nameIndex := 27, descriptorIndex := 28, attributes := #[] }])
  fields := #[{ name := "ENTERED_BEFORE_REMEMBERING", type := .int, accessFlags := 26, slot := 0, constantValue := 0 }, { name := "FLAT_HOLDING", type := .int, accessFlags := 26, slot := 1, constantValue := 0 }, { name := "FLAT_CLEAR", type := .int, accessFlags := 26, slot := 2, constantValue := 0 }, { name := "FIRST_COMPACTED", type := .int, accessFlags := 26, slot := 3, constantValue := 0 }, { name := "elsewhere", type := (.object "java/util/Map"), accessFlags := 18, slot := 0, constantValue := 0 }, { name := "bagEnds", type := (.object "java/util/Map"), accessFlags := 18, slot := 1, constantValue := 0 }, { name := "trail", type := (.array (.object "com/example/trusted_cut/trustedcut/term/Var")), accessFlags := 2, slot := 2, constantValue := 0 }, { name := "trailed", type := .int, accessFlags := 2, slot := 3, constantValue := 0 }, { name := "changes", type := (.object "com/example/trusted_cut/trustedcut/program/Changes"), accessFlags := 2, slot := 4, constantValue := 0 }, { name := "compacted", type := .int, accessFlags := 2, slot := 5, constantValue := 0 }, { name := "compactedAt", type := .int, accessFlags := 2, slot := 6, constantValue := 0 }]
  methods := #[k3m0, k3m1]
  instanceTypes := #[(.object "java/util/Map"), (.object "java/util/Map"), (.array (.object "com/example/trusted_cut/trustedcut/term/Var")), .int, (.object "com/example/trusted_cut/trustedcut/program/Changes"), .int, .int]
  staticTypes := #[.int, .int, .int, .int]
  resolved := Array.replicate 364 none
  statics := none }

def pool4 : Array CpInfo := pool [(2, .class_ 4), (1, u "java/util/Map"), (31, .class_ 37), (0, u "java/util/Map$Entry"), (55, .class_ 94), (0, u "java/lang/Object")] 168

/-- java/util/Map -/
def k4 : Class := { plain "java/util/Map" (some 0) with
  accessFlags := 1537
  interfaces := #[]
  cf := some (fileOf pool4 2 #[.nestMembers #[36]] #[] 1537 93 #[] #[])
  fields := #[]
  methods := #[]
  instanceTypes := #[]
  staticTypes := #[]
  resolved := Array.replicate 263 none
  statics := none }

def pool5 : Array CpInfo := pool [(1, .methodref 2 3), (0, .class_ 4), (0, .nameAndType 5 6), (0, u "java/lang/Object"), (0, u "<init>"), (0, u "()V"), (1, .class_ 10), (1, u "java/util/AbstractMap"), (42, .class_ 54), (0, u "java/util/Map"), (9, u "keySet"), (0, u "Ljava/util/Set;"), (0, .class_ 67), (0, u "java/util/AbstractMap$1"), (5, u "values"), (0, u "Ljava/util/Collection;"), (0, .class_ 76), (0, u "java/util/AbstractMap$2"), (104, .class_ 182), (0, u "java/util/AbstractMap$ViewCollection"), (0, .class_ 184), (0, u "java/util/AbstractMap$SimpleImmutableEntry"), (0, .class_ 186), (0, u "java/util/AbstractMap$SimpleEntry"), (0, .class_ 188), (0, u "java/util/AbstractMap$2$1"), (0, .class_ 190), (0, u "java/util/AbstractMap$1$1")] 5

def k5c0 : Code := { maxStack := 1, maxLocals := 1, code := jdk_71_method_1_code, exceptionTable := #[], attributes := #[] }
def k5m0 : Method := { name := "<init>", desc := "()V", sig := { parameters := [], returnType := none }, accessFlags := 4, code := some k5c0 }
/-- java/util/AbstractMap -/
def k5 : Class := { plain "java/util/AbstractMap" (some 0) with
  accessFlags := 1057
  interfaces := #[4]
  cf := some (fileOf pool5 8 #[.nestMembers #[181, 183, 185, 75, 187, 66, 189]] #[{ accessFlags := 4, nameIndex := 5, descriptorIndex := 6, attributes := #[] }] 1057 2 #[53] #[{ accessFlags := 128, nameIndex := 64, descriptorIndex := 65, attributes := #[] }, { accessFlags := 128, nameIndex := 73, descriptorIndex := 74, attributes := #[] }])
  fields := #[{ name := "keySet", type := (.object "java/util/Set"), accessFlags := 128, slot := 0, constantValue := 0 }, { name := "values", type := (.object "java/util/Collection"), accessFlags := 128, slot := 1, constantValue := 0 }]
  methods := #[k5m0]
  instanceTypes := #[(.object "java/util/Set"), (.object "java/util/Collection")]
  staticTypes := #[]
  resolved := Array.replicate 196 none
  statics := none }

def pool6 : Array CpInfo := pool [(1, .class_ 2), (0, u "java/lang/Cloneable"), (0, .class_ 4), (0, u "java/lang/Object")] 2

/-- java/lang/Cloneable -/
def k6 : Class := { plain "java/lang/Cloneable" (some 0) with
  accessFlags := 1537
  interfaces := #[]
  cf := some (fileOf pool6 1 #[] #[] 1537 3 #[] #[])
  fields := #[]
  methods := #[]
  instanceTypes := #[]
  staticTypes := #[]
  resolved := Array.replicate 7 none
  statics := none }

def pool7 : Array CpInfo := pool [(1, .class_ 2), (0, u "java/io/Serializable"), (0, .class_ 4), (0, u "java/lang/Object")] 2

/-- java/io/Serializable -/
def k7 : Class := { plain "java/io/Serializable" (some 0) with
  accessFlags := 1537
  interfaces := #[]
  cf := some (fileOf pool7 1 #[] #[] 1537 3 #[] #[])
  fields := #[]
  methods := #[]
  instanceTypes := #[]
  staticTypes := #[]
  resolved := Array.replicate 7 none
  statics := none }

def pool8 : Array CpInfo := pool [(40, .class_ 41), (0, u "java/util/HashMap"), (1, .methodref 44 45), (0, .class_ 46), (0, .nameAndType 47 48), (0, u "java/util/AbstractMap"), (0, u "<init>"), (0, u "()V"), (32, .fieldref 40 82), (0, .nameAndType 83 84), (0, u "loadFactor"), (0, u "F"), (5, u "threshold"), (0, u "I"), (0, .float 1061158912), (8, .class_ 103), (1, u "java/util/Map"), (0, u "size"), (2, u "table"), (0, u "[Ljava/util/HashMap$Node;"), (14, u "entrySet"), (39, .class_ 165), (1, u "java/util/HashMap$Node"), (14, .class_ 181), (0, u "java/util/HashMap$TreeNode"), (22, u "modCount"), (37, u "Ljava/util/Set;"), (0, .class_ 244), (0, u "java/util/HashMap$KeySet"), (18, .class_ 264), (0, u "java/util/HashMap$Values"), (3, .class_ 269), (0, u "java/util/HashMap$EntrySet"), (76, .class_ 348), (1, u "java/util/HashMap$UnsafeHolder"), (43, .class_ 393), (0, u "java/lang/Cloneable"), (0, .class_ 395), (0, u "java/io/Serializable"), (0, u "serialVersionUID"), (0, u "J"), (3, u "DEFAULT_INITIAL_CAPACITY"), (1, u "MAXIMUM_CAPACITY"), (0, u "DEFAULT_LOAD_FACTOR"), (0, u "TREEIFY_THRESHOLD"), (1, u "UNTREEIFY_THRESHOLD"), (1, u "MIN_TREEIFY_CAPACITY"), (186, .class_ 597), (0, u "java/util/HashMap$EntrySpliterator"), (0, .class_ 599), (0, u "java/util/HashMap$ValueSpliterator"), (0, .class_ 601), (0, u "java/util/HashMap$KeySpliterator"), (0, .class_ 603), (0, u "java/util/HashMap$HashMapSpliterator"), (0, .class_ 605), (0, u "java/util/HashMap$EntryIterator"), (0, .class_ 607), (0, u "java/util/HashMap$ValueIterator"), (0, .class_ 609), (0, u "java/util/HashMap$KeyIterator"), (0, .class_ 611), (0, u "java/util/HashMap$HashIterator")] 17

def k8c0 : Code := { maxStack := 2, maxLocals := 1, code := jdk_69_method_7_code, exceptionTable := #[], attributes := #[] }
def k8m0 : Method := { name := "<init>", desc := "()V", sig := { parameters := [], returnType := none }, accessFlags := 1, code := some k8c0 }
/-- java/util/HashMap -/
def k8 : Class := { plain "java/util/HashMap" (some 5) with
  accessFlags := 33
  interfaces := #[4, 6, 7]
  cf := some (fileOf pool8 40 #[.nestMembers #[180, 596, 598, 600, 602, 604, 606, 608, 610, 346, 268, 263, 243, 163]] #[{ accessFlags := 1, nameIndex := 47, descriptorIndex := 48, attributes := #[] }] 33 44 #[101, 392, 394] #[{ accessFlags := 26, nameIndex := 396, descriptorIndex := 397, attributes := #[] }, { accessFlags := 24, nameIndex := 401, descriptorIndex := 91, attributes := #[] }, { accessFlags := 24, nameIndex := 403, descriptorIndex := 91, attributes := #[] }, { accessFlags := 24, nameIndex := 404, descriptorIndex := 84, attributes := #[] }, { accessFlags := 24, nameIndex := 405, descriptorIndex := 91, attributes := #[] }, { accessFlags := 24, nameIndex := 407, descriptorIndex := 91, attributes := #[] }, { accessFlags := 24, nameIndex := 409, descriptorIndex := 91, attributes := #[] }, { accessFlags := 128, nameIndex := 107, descriptorIndex := 108, attributes := #[] }, { accessFlags := 128, nameIndex := 123, descriptorIndex := 242, attributes := #[] }, { accessFlags := 128, nameIndex := 104, descriptorIndex := 91, attributes := #[] }, { accessFlags := 128, nameIndex := 204, descriptorIndex := 91, attributes := #[] }, { accessFlags := 0, nameIndex := 90, descriptorIndex := 91, attributes := #[] }, { accessFlags := 16, nameIndex := 83, descriptorIndex := 84, attributes := #[] }])
  fields := #[{ name := "serialVersionUID", type := .long, accessFlags := 26, slot := 0, constantValue := 0 }, { name := "DEFAULT_INITIAL_CAPACITY", type := .int, accessFlags := 24, slot := 1, constantValue := 0 }, { name := "MAXIMUM_CAPACITY", type := .int, accessFlags := 24, slot := 2, constantValue := 0 }, { name := "DEFAULT_LOAD_FACTOR", type := .float, accessFlags := 24, slot := 3, constantValue := 0 }, { name := "TREEIFY_THRESHOLD", type := .int, accessFlags := 24, slot := 4, constantValue := 0 }, { name := "UNTREEIFY_THRESHOLD", type := .int, accessFlags := 24, slot := 5, constantValue := 0 }, { name := "MIN_TREEIFY_CAPACITY", type := .int, accessFlags := 24, slot := 6, constantValue := 0 }, { name := "table", type := (.array (.object "java/util/HashMap$Node")), accessFlags := 128, slot := 2, constantValue := 0 }, { name := "entrySet", type := (.object "java/util/Set"), accessFlags := 128, slot := 3, constantValue := 0 }, { name := "size", type := .int, accessFlags := 128, slot := 4, constantValue := 0 }, { name := "modCount", type := .int, accessFlags := 128, slot := 5, constantValue := 0 }, { name := "threshold", type := .int, accessFlags := 0, slot := 6, constantValue := 0 }, { name := "loadFactor", type := .float, accessFlags := 16, slot := 7, constantValue := 0 }]
  methods := #[k8m0]
  instanceTypes := #[(.object "java/util/Set"), (.object "java/util/Collection"), (.array (.object "java/util/HashMap$Node")), (.object "java/util/Set"), .int, .int, .int, .float]
  staticTypes := #[.long, .int, .int, .float, .int, .int, .int]
  resolved := Array.replicate 629 none
  statics := none }

def pool9 : Array CpInfo := pool [(21, .class_ 22), (0, u "com/example/trusted_cut/trustedcut/term/Term"), (46, .class_ 70), (0, u "java/lang/Object")] 37

/-- com/example/trusted_cut/trustedcut/term/Term -/
def k9 : Class := { plain "com/example/trusted_cut/trustedcut/term/Term" (some 0) with
  accessFlags := 1537
  interfaces := #[]
  cf := some (fileOf pool9 21 #[] #[] 1537 69 #[] #[])
  fields := #[]
  methods := #[]
  instanceTypes := #[]
  staticTypes := #[]
  resolved := Array.replicate 108 none
  statics := none }

def pool10 : Array CpInfo := pool [(2, .class_ 4), (1, u "java/lang/Object"), (0, u "<init>"), (0, u "()V"), (1, .class_ 10), (1, u "com/example/trusted_cut/trustedcut/term/Var"), (0, u "MADE"), (0, u "Ljava/util/concurrent/atomic/AtomicLong;"), (8, u "serial"), (0, u "J"), (5, u "holder"), (0, u "Ljava/lang/Object;"), (2, u "value"), (0, u "Lcom/example/trusted_cut/trustedcut/term/Term;"), (2, u "exposed"), (0, u "Z"), (1, .class_ 40), (0, u "com/example/trusted_cut/trustedcut/term/Term")] 16

def k10m0 : Method := { name := "<init>", desc := "()V", sig := { parameters := [], returnType := none }, accessFlags := 1, code := none }
/-- com/example/trusted_cut/trustedcut/term/Var -/
def k10 : Class := { plain "com/example/trusted_cut/trustedcut/term/Var" (some 0) with
  accessFlags := 49
  interfaces := #[9]
  cf := some (fileOf pool10 8 #[] #[{ accessFlags := 1, nameIndex := 5, descriptorIndex := 6, attributes := #[] }] 49 2 #[39] #[{ accessFlags := 26, nameIndex := 11, descriptorIndex := 12, attributes := #[] }, { accessFlags := 18, nameIndex := 21, descriptorIndex := 22, attributes := #[] }, { accessFlags := 2, nameIndex := 28, descriptorIndex := 29, attributes := #[] }, { accessFlags := 2, nameIndex := 32, descriptorIndex := 33, attributes := #[] }, { accessFlags := 2, nameIndex := 36, descriptorIndex := 37, attributes := #[] }])
  fields := #[{ name := "MADE", type := (.object "java/util/concurrent/atomic/AtomicLong"), accessFlags := 26, slot := 0, constantValue := 0 }, { name := "serial", type := .long, accessFlags := 18, slot := 0, constantValue := 0 }, { name := "holder", type := (.object "java/lang/Object"), accessFlags := 2, slot := 1, constantValue := 0 }, { name := "value", type := (.object "com/example/trusted_cut/trustedcut/term/Term"), accessFlags := 2, slot := 2, constantValue := 0 }, { name := "exposed", type := .boolean, accessFlags := 2, slot := 3, constantValue := 0 }]
  methods := #[k10m0]
  instanceTypes := #[.long, (.object "java/lang/Object"), (.object "com/example/trusted_cut/trustedcut/term/Term"), .boolean]
  staticTypes := #[(.object "java/util/concurrent/atomic/AtomicLong")]
  resolved := Array.replicate 57 none
  statics := none }

def pool11 : Array CpInfo := pool [(8, .class_ 10), (1, u "java/lang/Iterable"), (24, .class_ 36), (0, u "java/lang/Object")] 25

/-- java/lang/Iterable -/
def k11 : Class := { plain "java/lang/Iterable" (some 0) with
  accessFlags := 1537
  interfaces := #[]
  cf := some (fileOf pool11 8 #[] #[] 1537 35 #[] #[])
  fields := #[]
  methods := #[]
  instanceTypes := #[]
  staticTypes := #[]
  resolved := Array.replicate 62 none
  statics := none }

def pool12 : Array CpInfo := pool [(10, .class_ 12), (1, u "java/util/Collection"), (47, .class_ 61), (0, u "java/lang/Object"), (0, .class_ 63), (0, u "java/lang/Iterable")] 51

/-- java/util/Collection -/
def k12 : Class := { plain "java/util/Collection" (some 0) with
  accessFlags := 1537
  interfaces := #[11]
  cf := some (fileOf pool12 10 #[] #[] 1537 60 #[62] #[])
  fields := #[]
  methods := #[]
  instanceTypes := #[]
  staticTypes := #[]
  resolved := Array.replicate 115 none
  statics := none }

def pool13 : Array CpInfo := pool [(1, .methodref 2 3), (0, .class_ 4), (0, .nameAndType 5 6), (0, u "java/lang/Object"), (0, u "<init>"), (0, u "()V"), (1, .class_ 10), (1, u "java/util/AbstractCollection"), (66, .class_ 78), (0, u "java/util/Collection")] 81

def k13c0 : Code := { maxStack := 1, maxLocals := 1, code := jdk_22_method_1_code, exceptionTable := #[], attributes := #[] }
def k13m0 : Method := { name := "<init>", desc := "()V", sig := { parameters := [], returnType := none }, accessFlags := 4, code := some k13c0 }
/-- java/util/AbstractCollection -/
def k13 : Class := { plain "java/util/AbstractCollection" (some 0) with
  accessFlags := 1057
  interfaces := #[12]
  cf := some (fileOf pool13 8 #[] #[{ accessFlags := 4, nameIndex := 5, descriptorIndex := 6, attributes := #[] }] 1057 2 #[77] #[])
  fields := #[]
  methods := #[k13m0]
  instanceTypes := #[]
  staticTypes := #[]
  resolved := Array.replicate 160 none
  statics := none }

def pool14 : Array CpInfo := pool [(8, .class_ 10), (1, u "java/util/SequencedCollection"), (15, .class_ 27), (0, u "java/lang/Object"), (0, .class_ 29), (0, u "java/util/Collection")] 27

/-- java/util/SequencedCollection -/
def k14 : Class := { plain "java/util/SequencedCollection" (some 0) with
  accessFlags := 1537
  interfaces := #[12]
  cf := some (fileOf pool14 8 #[] #[] 1537 26 #[28] #[])
  fields := #[]
  methods := #[]
  instanceTypes := #[]
  staticTypes := #[]
  resolved := Array.replicate 57 none
  statics := none }

def pool15 : Array CpInfo := pool [(8, .class_ 10), (1, u "java/util/List"), (92, .class_ 104), (0, u "java/lang/Object"), (15, .class_ 121), (0, u "java/util/SequencedCollection")] 129

/-- java/util/List -/
def k15 : Class := { plain "java/util/List" (some 0) with
  accessFlags := 1537
  interfaces := #[14]
  cf := some (fileOf pool15 8 #[] #[] 1537 103 #[120] #[])
  fields := #[]
  methods := #[]
  instanceTypes := #[]
  staticTypes := #[]
  resolved := Array.replicate 251 none
  statics := none }

def pool16 : Array CpInfo := pool [(1, .methodref 2 3), (0, .class_ 4), (0, .nameAndType 5 6), (0, u "java/util/AbstractCollection"), (0, u "<init>"), (0, u "()V"), (0, .fieldref 8 9), (0, .class_ 10), (0, .nameAndType 11 12), (0, u "java/util/AbstractList"), (0, u "modCount"), (0, u "I"), (64, .class_ 78), (0, u "java/util/AbstractList$Itr"), (3, .class_ 83), (0, u "java/util/AbstractList$ListItr"), (9, .class_ 94), (0, u "java/util/AbstractList$RandomAccessSubList"), (3, .class_ 99), (0, u "java/util/AbstractList$SubList"), (33, .class_ 134), (0, u "java/util/List"), (73, .class_ 209), (0, u "java/util/AbstractList$SubList$1"), (0, .class_ 211), (0, u "java/util/AbstractList$RandomAccessSpliterator")] 6

def k16c0 : Code := { maxStack := 2, maxLocals := 1, code := jdk_39_method_1_code, exceptionTable := #[], attributes := #[] }
def k16m0 : Method := { name := "<init>", desc := "()V", sig := { parameters := [], returnType := none }, accessFlags := 4, code := some k16c0 }
/-- java/util/AbstractList -/
def k16 : Class := { plain "java/util/AbstractList" (some 13) with
  accessFlags := 1057
  interfaces := #[15]
  cf := some (fileOf pool16 8 #[.nestMembers #[93, 98, 208, 210, 82, 77]] #[{ accessFlags := 4, nameIndex := 5, descriptorIndex := 6, attributes := #[] }] 1057 2 #[133] #[{ accessFlags := 132, nameIndex := 11, descriptorIndex := 12, attributes := #[] }])
  fields := #[{ name := "modCount", type := .int, accessFlags := 132, slot := 0, constantValue := 0 }]
  methods := #[k16m0]
  instanceTypes := #[.int]
  staticTypes := #[]
  resolved := Array.replicate 218 none
  statics := none }

def pool17 : Array CpInfo := pool [(1, .class_ 2), (0, u "java/util/RandomAccess"), (0, .class_ 4), (0, u "java/lang/Object")] 2

/-- java/util/RandomAccess -/
def k17 : Class := { plain "java/util/RandomAccess" (some 0) with
  accessFlags := 1537
  interfaces := #[]
  cf := some (fileOf pool17 1 #[] #[] 1537 3 #[] #[])
  fields := #[]
  methods := #[]
  instanceTypes := #[]
  staticTypes := #[]
  resolved := Array.replicate 7 none
  statics := none }

def pool18 : Array CpInfo := pool [(1, .methodref 2 3), (0, .class_ 4), (0, .nameAndType 5 6), (0, u "java/util/AbstractList"), (0, u "<init>"), (0, u "()V"), (2, .fieldref 10 11), (0, .class_ 12), (0, .nameAndType 13 14), (0, u "java/util/ArrayList"), (0, u "elementData"), (0, u "[Ljava/lang/Object;"), (2, u "EMPTY_ELEMENTDATA"), (21, .fieldref 10 40), (0, .nameAndType 41 14), (0, u "DEFAULTCAPACITY_EMPTY_ELEMENTDATA"), (8, u "size"), (0, u "I"), (96, .class_ 149), (0, u "java/util/List"), (112, .class_ 263), (0, u "java/util/ArrayList$ListItr"), (3, .class_ 268), (0, u "java/util/ArrayList$Itr"), (7, .class_ 277), (0, u "java/util/ArrayList$SubList"), (12, .class_ 291), (0, u "java/util/ArrayList$ArrayListSpliterator"), (37, .class_ 330), (0, u "java/util/RandomAccess"), (0, .class_ 332), (0, u "java/lang/Cloneable"), (0, .class_ 334), (0, u "java/io/Serializable"), (0, u "serialVersionUID"), (0, u "J"), (3, u "DEFAULT_CAPACITY"), (159, .class_ 501), (0, u "java/util/ArrayList$SubList$2"), (0, .class_ 503), (0, u "java/util/ArrayList$SubList$1")] 5

def k18c0 : Code := { maxStack := 2, maxLocals := 1, code := jdk_38_method_2_code, exceptionTable := #[], attributes := #[] }
def k18m0 : Method := { name := "<init>", desc := "()V", sig := { parameters := [], returnType := none }, accessFlags := 1, code := some k18c0 }
/-- java/util/ArrayList -/
def k18 : Class := { plain "java/util/ArrayList" (some 16) with
  accessFlags := 33
  interfaces := #[15, 17, 6, 7]
  cf := some (fileOf pool18 10 #[.nestMembers #[290, 276, 500, 502, 262, 267]] #[{ accessFlags := 1, nameIndex := 5, descriptorIndex := 6, attributes := #[] }] 33 2 #[148, 329, 331, 333] #[{ accessFlags := 26, nameIndex := 335, descriptorIndex := 336, attributes := #[] }, { accessFlags := 26, nameIndex := 340, descriptorIndex := 51, attributes := #[] }, { accessFlags := 26, nameIndex := 17, descriptorIndex := 14, attributes := #[] }, { accessFlags := 26, nameIndex := 41, descriptorIndex := 14, attributes := #[] }, { accessFlags := 128, nameIndex := 13, descriptorIndex := 14, attributes := #[] }, { accessFlags := 2, nameIndex := 50, descriptorIndex := 51, attributes := #[] }])
  fields := #[{ name := "serialVersionUID", type := .long, accessFlags := 26, slot := 0, constantValue := 0 }, { name := "DEFAULT_CAPACITY", type := .int, accessFlags := 26, slot := 1, constantValue := 0 }, { name := "EMPTY_ELEMENTDATA", type := (.array (.object "java/lang/Object")), accessFlags := 26, slot := 2, constantValue := 0 }, { name := "DEFAULTCAPACITY_EMPTY_ELEMENTDATA", type := (.array (.object "java/lang/Object")), accessFlags := 26, slot := 3, constantValue := 0 }, { name := "elementData", type := (.array (.object "java/lang/Object")), accessFlags := 128, slot := 1, constantValue := 0 }, { name := "size", type := .int, accessFlags := 2, slot := 2, constantValue := 0 }]
  methods := #[k18m0]
  instanceTypes := #[.int, (.array (.object "java/lang/Object")), .int]
  staticTypes := #[.long, .int, (.array (.object "java/lang/Object")), (.array (.object "java/lang/Object"))]
  resolved := Array.replicate 509 none
  statics := some 0 }

def pool19 : Array CpInfo := pool [(1, .methodref 2 3), (0, .class_ 4), (0, .nameAndType 5 6), (0, u "java/lang/Object"), (0, u "<init>"), (0, u "()V"), (0, .fieldref 8 9), (0, .class_ 10), (0, .nameAndType 11 12), (0, u "com/example/trusted_cut/trustedcut/program/Unifier"), (0, u "marked"), (0, u "Lcom/example/trusted_cut/trustedcut/program/Unifier;"), (0, .fieldref 8 14), (0, .nameAndType 15 16), (0, u "mark"), (0, u "I"), (0, .fieldref 8 18), (0, .nameAndType 19 20), (0, u "made"), (0, u "[Lcom/example/trusted_cut/trustedcut/term/Term;"), (19, u "NONE"), (0, u "(I[Lcom/example/trusted_cut/trustedcut/term/Term;)V"), (3, u "sharingMarkOf"), (0, u "(Lcom/example/trusted_cut/trustedcut/program/Unifier;)Lcom/example/trusted_cut/trustedcut/program/Unifier;")] 13

def k19c0 : Code := { maxStack := 2, maxLocals := 3, code := prog_90_method_1_code, exceptionTable := #[], attributes := #[] }
def k19m0 : Method := { name := "<init>", desc := "(I[Lcom/example/trusted_cut/trustedcut/term/Term;)V", sig := { parameters := [.int, (.array (.object "com/example/trusted_cut/trustedcut/term/Term"))], returnType := none }, accessFlags := 0, code := some k19c0 }
def k19c1 : Code := { maxStack := 2, maxLocals := 2, code := prog_90_method_4_code, exceptionTable := #[], attributes := #[] }
def k19m1 : Method := { name := "sharingMarkOf", desc := "(Lcom/example/trusted_cut/trustedcut/program/Unifier;)Lcom/example/trusted_cut/trustedcut/program/Unifier;", sig := { parameters := [(.object "com/example/trusted_cut/trustedcut/program/Unifier")], returnType := some (.object "com/example/trusted_cut/trustedcut/program/Unifier") }, accessFlags := 0, code := some k19c1 }
/-- com/example/trusted_cut/trustedcut/program/Unifier -/
def k19 : Class := { plain "com/example/trusted_cut/trustedcut/program/Unifier" (some 0) with
  accessFlags := 33
  interfaces := #[]
  cf := some (fileOf pool19 8 #[] #[{ accessFlags := 0, nameIndex := 5, descriptorIndex := 41, attributes := #[] }, { accessFlags := 0, nameIndex := 45, descriptorIndex := 46, attributes := #[] }] 33 2 #[] #[{ accessFlags := 24, nameIndex := 40, descriptorIndex := 20, attributes := #[] }, { accessFlags := 2, nameIndex := 11, descriptorIndex := 12, attributes := #[] }, { accessFlags := 2, nameIndex := 15, descriptorIndex := 16, attributes := #[] }, { accessFlags := 18, nameIndex := 19, descriptorIndex := 20, attributes := #[] }])
  fields := #[{ name := "NONE", type := (.array (.object "com/example/trusted_cut/trustedcut/term/Term")), accessFlags := 24, slot := 0, constantValue := 0 }, { name := "marked", type := (.object "com/example/trusted_cut/trustedcut/program/Unifier"), accessFlags := 2, slot := 0, constantValue := 0 }, { name := "mark", type := .int, accessFlags := 2, slot := 1, constantValue := 0 }, { name := "made", type := (.array (.object "com/example/trusted_cut/trustedcut/term/Term")), accessFlags := 18, slot := 2, constantValue := 0 }]
  methods := #[k19m0, k19m1]
  instanceTypes := #[(.object "com/example/trusted_cut/trustedcut/program/Unifier"), .int, (.array (.object "com/example/trusted_cut/trustedcut/term/Term"))]
  staticTypes := #[(.array (.object "com/example/trusted_cut/trustedcut/term/Term"))]
  resolved := Array.replicate 60 none
  statics := some 1 }

def pool20 : Array CpInfo := pool [(1, .methodref 2 3), (0, .class_ 4), (0, .nameAndType 5 6), (0, u "java/lang/Object"), (0, u "<init>"), (0, u "()V"), (0, .fieldref 8 9), (0, .class_ 10), (0, .nameAndType 11 12), (0, u "com/example/trusted_cut/trustedcut/program/Choice"), (0, u "unifier"), (0, u "Lcom/example/trusted_cut/trustedcut/program/Unifier;"), (0, .fieldref 8 14), (0, .nameAndType 15 16), (0, u "goals"), (0, u "Ljava/util/List;"), (0, .fieldref 8 18), (0, .nameAndType 19 20), (0, u "walk"), (0, u "Lcom/example/trusted_cut/trustedcut/program/ClauseWalk;"), (8, u "next"), (1, .fieldref 8 32), (0, .nameAndType 29 33), (0, u "Lcom/example/trusted_cut/trustedcut/program/Choice;"), (65, u "(Lcom/example/trusted_cut/trustedcut/program/Unifier;Ljava/util/List;Lcom/example/trusted_cut/trustedcut/program/ClauseWalk;)V"), (3, u "()Lcom/example/trusted_cut/trustedcut/program/Unifier;"), (9, u "follow"), (0, u "(Lcom/example/trusted_cut/trustedcut/program/Choice;)V")] 4

def k20c0 : Code := { maxStack := 2, maxLocals := 4, code := prog_42_method_1_code, exceptionTable := #[], attributes := #[] }
def k20m0 : Method := { name := "<init>", desc := "(Lcom/example/trusted_cut/trustedcut/program/Unifier;Ljava/util/List;Lcom/example/trusted_cut/trustedcut/program/ClauseWalk;)V", sig := { parameters := [(.object "com/example/trusted_cut/trustedcut/program/Unifier"), (.object "java/util/List"), (.object "com/example/trusted_cut/trustedcut/program/ClauseWalk")], returnType := none }, accessFlags := 0, code := some k20c0 }
def k20c1 : Code := { maxStack := 1, maxLocals := 1, code := prog_42_method_2_code, exceptionTable := #[], attributes := #[] }
def k20m1 : Method := { name := "unifier", desc := "()Lcom/example/trusted_cut/trustedcut/program/Unifier;", sig := { parameters := [], returnType := some (.object "com/example/trusted_cut/trustedcut/program/Unifier") }, accessFlags := 1, code := some k20c1 }
def k20c2 : Code := { maxStack := 2, maxLocals := 2, code := prog_42_method_7_code, exceptionTable := #[], attributes := #[] }
def k20m2 : Method := { name := "follow", desc := "(Lcom/example/trusted_cut/trustedcut/program/Choice;)V", sig := { parameters := [(.object "com/example/trusted_cut/trustedcut/program/Choice")], returnType := none }, accessFlags := 0, code := some k20c2 }
/-- com/example/trusted_cut/trustedcut/program/Choice -/
def k20 : Class := { plain "com/example/trusted_cut/trustedcut/program/Choice" (some 0) with
  accessFlags := 33
  interfaces := #[]
  cf := some (fileOf pool20 8 #[] #[{ accessFlags := 0, nameIndex := 5, descriptorIndex := 99, attributes := #[] }, { accessFlags := 1, nameIndex := 11, descriptorIndex := 103, attributes := #[] }, { accessFlags := 0, nameIndex := 113, descriptorIndex := 114, attributes := #[] }] 33 2 #[] #[{ accessFlags := 18, nameIndex := 11, descriptorIndex := 12, attributes := #[] }, { accessFlags := 18, nameIndex := 15, descriptorIndex := 16, attributes := #[] }, { accessFlags := 18, nameIndex := 19, descriptorIndex := 20, attributes := #[] }, { accessFlags := 2, nameIndex := 29, descriptorIndex := 33, attributes := #[] }])
  fields := #[{ name := "unifier", type := (.object "com/example/trusted_cut/trustedcut/program/Unifier"), accessFlags := 18, slot := 0, constantValue := 0 }, { name := "goals", type := (.object "java/util/List"), accessFlags := 18, slot := 1, constantValue := 0 }, { name := "walk", type := (.object "com/example/trusted_cut/trustedcut/program/ClauseWalk"), accessFlags := 18, slot := 2, constantValue := 0 }, { name := "next", type := (.object "com/example/trusted_cut/trustedcut/program/Choice"), accessFlags := 2, slot := 3, constantValue := 0 }]
  methods := #[k20m0, k20m1, k20m2]
  instanceTypes := #[(.object "com/example/trusted_cut/trustedcut/program/Unifier"), (.object "java/util/List"), (.object "com/example/trusted_cut/trustedcut/program/ClauseWalk"), (.object "com/example/trusted_cut/trustedcut/program/Choice")]
  staticTypes := #[]
  resolved := Array.replicate 119 none
  statics := none }

/-- the primitive byte -/
def k21 : Class := { plain "byte" none with kind := .primitive 'B', accessFlags := 0x411 }
/-- [B -/
def k22 : Class := { plain "[B" (some 0) with kind := .array 21 .byte, interfaces := #[6, 7], accessFlags := 1041 }

/-- the primitive int -/
def k23 : Class := { plain "int" none with kind := .primitive 'I', accessFlags := 0x411 }
/-- [I -/
def k24 : Class := { plain "[I" (some 0) with kind := .array 23 .int, interfaces := #[6, 7], accessFlags := 1041 }

/-- [Lcom/example/trusted_cut/trustedcut/term/Term; -/
def k25 : Class := { plain "[Lcom/example/trusted_cut/trustedcut/term/Term;" (some 0) with kind := .array 9 (.object "com/example/trusted_cut/trustedcut/term/Term"), interfaces := #[6, 7], accessFlags := 1041 }

/-- [Lcom/example/trusted_cut/trustedcut/term/Var; -/
def k26 : Class := { plain "[Lcom/example/trusted_cut/trustedcut/term/Var;" (some 0) with kind := .array 10 (.object "com/example/trusted_cut/trustedcut/term/Var"), interfaces := #[6, 7], accessFlags := 1041 }

/-- [Ljava/lang/Object; -/
def k27 : Class := { plain "[Ljava/lang/Object;" (some 0) with kind := .array 0 (.object "java/lang/Object"), interfaces := #[6, 7], accessFlags := 1041 }

def heap : Heap := #[{ cls := 18, slots := #[.long 0, .int 0, .ref 3, .ref 4], vm := .statics 18 },
  { cls := 19, slots := #[.ref 2], vm := .statics 19 },
  { cls := 25, slots := #[], vm := .none },
  { cls := 27, slots := #[], vm := .none },
  { cls := 27, slots := #[], vm := .none }]
def classes : Array Class := #[k0, k1, k2, k3, k4, k5, k6, k7, k8, k9, k10, k11, k12, k13, k14, k15, k16, k17, k18, k19, k20, k21, k22, k23, k24, k25, k26, k27]
def interned : List (Array UInt16 × Addr) := []
def slotsUsed : Nat := 5
def theMethod : MethodId := ⟨1, 1⟩
def args0 : Array Value := #[.int 5]
def aboutOver (below : List Frame) : State where
  vm := { classes := classes, interned := interned.toArray }
  heap := heap
  slotsUsed := slotsUsed
  threads := #[{ frames := .invoking theMethod args0 :: below }]
def below0 : List Frame := [.native { method := ⟨0, 0⟩, args := #[] }]
def about1 : State := aboutOver below0
def p0 : Program := .bare "" "" ""
def e0 : Env := launch0.env 0 0 0
theorem w_frames : about1.frames = Frame.invoking theMethod args0 :: below0 := rfl
set_option maxRecDepth 65536 in
theorem w_args : argsFit about1.vm theMethod args0 = true := by decide +kernel
set_option maxRecDepth 65536 in
theorem w_heap : heapFits about1 = true := by decide +kernel
set_option maxRecDepth 65536 in
theorem w_runnable : about1.curStatus? = some .runnable := by decide +kernel
set_option maxRecDepth 65536 in
theorem w_alone : about1.alone = true := by decide +kernel
set_option maxRecDepth 65536 in
theorem w_named : about1.methodNamed? x = some theMethod := by decide +kernel
set_option maxRecDepth 65536 in
theorem w_hears : about1.hears theMethod below0 = true := by decide +kernel
set_option maxRecDepth 65536 in
theorem w_ripe : about1.ripe theMethod args0 below0 = true := by decide +kernel
theorem w_running : about1.status = .running := rfl
set_option maxRecDepth 65536 in
theorem w_room : about1.hasRoom e0.platform room_1 = true :=
  launch0.hasRoom_least _ room_1 (by decide +kernel) (by decide +kernel) (by decide +kernel) (by decide +kernel) (by decide +kernel) (by decide +kernel)
theorem allAtoms_all (ts : List Jvm.Cond) (a : Array Jvm.Value) (st : Jvm.State) : (allAtoms ts).before a st = ts.all (fun c => c.before a st) := by
  induction ts with
  | nil => rfl
  | cons c t ih =>
    show (Jvm.Cond.and c (allAtoms t)).before a st = _
    rw [Jvm.Cond.before_and, ih, List.all_cons]
def words1 : List Jvm.Cond := Jvm.Cond.code x code maxLocals ret :: tables_1
/-- a 'code' word, met by the world's own term for the bytes: nothing is compared byte by byte -/
theorem code_word {y : MethodName} {bytes : ByteArray} {mx : Nat} {rt : Option FieldType} {a : Array Value} {s : State} {m : MethodId} {meth : Method} {c : Code} (h1 : s.methodNamed? y = some m) (h2 : s.vm.method? m = some meth) (h3 : meth.code = some c) (h4 : c.code = bytes)
    (h5 : (c.maxLocals == mx && c.exceptionTable.isEmpty && decide (c.maxStack ≤ mostOperands) && decide (meth.sig.returnType = rt) && !meth.locks && decide (parseMethodDescriptor y.desc = some meth.sig)) = true) : (Jvm.Cond.code y bytes mx rt).before a s = true := by
  simp only [Bool.and_eq_true, beq_iff_eq, Bool.not_eq_true', decide_eq_true_eq] at h5
  obtain ⟨⟨⟨⟨⟨g1, g2⟩, g3⟩, g4⟩, g5⟩, g6⟩ := h5
  simp [Cond.before, Cond.holds, Cond.value, h1, h2, h3, h4, g1, g2, g3, g4, g5, g6]
def isCode : Jvm.Cond → Bool
  | .code _ _ _ _ => true
  | _ => false
theorem all_split {L : List Jvm.Cond} {P : Jvm.Cond → Bool} (h1 : L.all (fun c => isCode c || P c) = true) (h2 : ∀ c ∈ L.filter isCode, P c = true) : L.all P = true := by
  refine List.all_eq_true.mpr fun c hc => ?_
  have h := List.all_eq_true.mp h1 c hc
  rcases Bool.eq_false_or_eq_true (isCode c) with hi | hi
  · exact h2 c (List.mem_filter.mpr ⟨hc, hi⟩)
  · simpa [hi] using h
set_option maxRecDepth 65536 in
theorem w_c0 : (Jvm.Cond.code x code maxLocals ret).before args0 about1 = true := code_word (m := ⟨1, 1⟩) (meth := k1m1) (c := k1c1) (by decide +kernel) rfl rfl rfl (by decide +kernel)
set_option maxRecDepth 65536 in
theorem w_c1 : (Jvm.Cond.code ({ cls := "com/example/trusted_cut/trustedcut/program/Selections", name := "<init>", desc := "()V" } : Jvm.MethodName) prog_73_method_1_code (1 : Nat) (Option.none : Option Jvm.ClassFile.FieldType)).before args0 about1 = true := code_word (m := ⟨2, 0⟩) (meth := k2m0) (c := k2c0) (by decide +kernel) rfl rfl rfl (by decide +kernel)
set_option maxRecDepth 65536 in
theorem w_c2 : (Jvm.Cond.code ({ cls := "java/lang/Object", name := "<init>", desc := "()V" } : Jvm.MethodName) object_method_1_code (1 : Nat) (Option.none : Option Jvm.ClassFile.FieldType)).before args0 about1 = true := code_word (m := ⟨0, 0⟩) (meth := k0m0) (c := k0c0) (by decide +kernel) rfl rfl rfl (by decide +kernel)
set_option maxRecDepth 65536 in
theorem w_c3 : (Jvm.Cond.code ({ cls := "com/example/trusted_cut/trustedcut/program/Bindings", name := "<init>", desc := "()V" } : Jvm.MethodName) prog_31_method_1_code (1 : Nat) (Option.none : Option Jvm.ClassFile.FieldType)).before args0 about1 = true := code_word (m := ⟨3, 0⟩) (meth := k3m0) (c := k3c0) (by decide +kernel) rfl rfl rfl (by decide +kernel)
set_option maxRecDepth 65536 in
theorem w_c4 : (Jvm.Cond.code ({ cls := "java/util/HashMap", name := "<init>", desc := "()V" } : Jvm.MethodName) jdk_69_method_7_code (1 : Nat) (Option.none : Option Jvm.ClassFile.FieldType)).before args0 about1 = true := code_word (m := ⟨8, 0⟩) (meth := k8m0) (c := k8c0) (by decide +kernel) rfl rfl rfl (by decide +kernel)
set_option maxRecDepth 65536 in
theorem w_c5 : (Jvm.Cond.code ({ cls := "java/util/AbstractMap", name := "<init>", desc := "()V" } : Jvm.MethodName) jdk_71_method_1_code (1 : Nat) (Option.none : Option Jvm.ClassFile.FieldType)).before args0 about1 = true := code_word (m := ⟨5, 0⟩) (meth := k5m0) (c := k5c0) (by decide +kernel) rfl rfl rfl (by decide +kernel)
set_option maxRecDepth 65536 in
theorem w_c6 : (Jvm.Cond.code ({ cls := "java/util/ArrayList", name := "<init>", desc := "()V" } : Jvm.MethodName) jdk_38_method_2_code (1 : Nat) (Option.none : Option Jvm.ClassFile.FieldType)).before args0 about1 = true := code_word (m := ⟨18, 0⟩) (meth := k18m0) (c := k18c0) (by decide +kernel) rfl rfl rfl (by decide +kernel)
set_option maxRecDepth 65536 in
theorem w_c7 : (Jvm.Cond.code ({ cls := "java/util/AbstractList", name := "<init>", desc := "()V" } : Jvm.MethodName) jdk_39_method_1_code (1 : Nat) (Option.none : Option Jvm.ClassFile.FieldType)).before args0 about1 = true := code_word (m := ⟨16, 0⟩) (meth := k16m0) (c := k16c0) (by decide +kernel) rfl rfl rfl (by decide +kernel)
set_option maxRecDepth 65536 in
theorem w_c8 : (Jvm.Cond.code ({ cls := "java/util/AbstractCollection", name := "<init>", desc := "()V" } : Jvm.MethodName) jdk_22_method_1_code (1 : Nat) (Option.none : Option Jvm.ClassFile.FieldType)).before args0 about1 = true := code_word (m := ⟨13, 0⟩) (meth := k13m0) (c := k13c0) (by decide +kernel) rfl rfl rfl (by decide +kernel)
set_option maxRecDepth 65536 in
theorem w_c9 : (Jvm.Cond.code ({ cls := "com/example/trusted_cut/trustedcut/program/Unifier", name := "<init>", desc := "(I[Lcom/example/trusted_cut/trustedcut/term/Term;)V" } : Jvm.MethodName) prog_90_method_1_code (3 : Nat) (Option.none : Option Jvm.ClassFile.FieldType)).before args0 about1 = true := code_word (m := ⟨19, 0⟩) (meth := k19m0) (c := k19c0) (by decide +kernel) rfl rfl rfl (by decide +kernel)
set_option maxRecDepth 65536 in
theorem w_c10 : (Jvm.Cond.code ({ cls := "com/example/trusted_cut/trustedcut/program/Selections", name := "clear", desc := "()V" } : Jvm.MethodName) prog_73_method_4_code (1 : Nat) (Option.none : Option Jvm.ClassFile.FieldType)).before args0 about1 = true := code_word (m := ⟨2, 3⟩) (meth := k2m3) (c := k2c3) (by decide +kernel) rfl rfl rfl (by decide +kernel)
set_option maxRecDepth 65536 in
theorem w_c11 : (Jvm.Cond.code ({ cls := "com/example/trusted_cut/trustedcut/program/Selections", name := "goals", desc := "()Ljava/util/List;" } : Jvm.MethodName) prog_73_method_2_code (1 : Nat) (Option.some (Jvm.ClassFile.FieldType.object "java/util/List"))).before args0 about1 = true := code_word (m := ⟨2, 1⟩) (meth := k2m1) (c := k2c1) (by decide +kernel) rfl rfl rfl (by decide +kernel)
set_option maxRecDepth 65536 in
theorem w_c12 : (Jvm.Cond.code ({ cls := "com/example/trusted_cut/trustedcut/program/Selections", name := "more", desc := "()Lcom/example/trusted_cut/trustedcut/program/Choice;" } : Jvm.MethodName) prog_73_method_3_code (1 : Nat) (Option.some (Jvm.ClassFile.FieldType.object "com/example/trusted_cut/trustedcut/program/Choice"))).before args0 about1 = true := code_word (m := ⟨2, 2⟩) (meth := k2m2) (c := k2c2) (by decide +kernel) rfl rfl rfl (by decide +kernel)
set_option maxRecDepth 65536 in
theorem w_c13 : (Jvm.Cond.code ({ cls := "com/example/trusted_cut/trustedcut/program/Selections", name := "enterFirst", desc := "(Lcom/example/trusted_cut/trustedcut/program/Bindings;)V" } : Jvm.MethodName) prog_73_method_8_code (2 : Nat) (Option.none : Option Jvm.ClassFile.FieldType)).before args0 about1 = true := code_word (m := ⟨2, 5⟩) (meth := k2m5) (c := k2c5) (by decide +kernel) rfl rfl rfl (by decide +kernel)
set_option maxRecDepth 65536 in
theorem w_c14 : (Jvm.Cond.code ({ cls := "com/example/trusted_cut/trustedcut/program/Bindings", name := "mark", desc := "()I" } : Jvm.MethodName) prog_31_method_5_code (1 : Nat) (Option.some Jvm.ClassFile.FieldType.int)).before args0 about1 = true := code_word (m := ⟨3, 1⟩) (meth := k3m1) (c := k3c1) (by decide +kernel) rfl rfl rfl (by decide +kernel)
set_option maxRecDepth 65536 in
theorem w_c15 : (Jvm.Cond.code ({ cls := "com/example/trusted_cut/trustedcut/program/Selections", name := "add", desc := "(Lcom/example/trusted_cut/trustedcut/program/Unifier;Ljava/util/List;)V" } : Jvm.MethodName) prog_73_method_5_code (4 : Nat) (Option.none : Option Jvm.ClassFile.FieldType)).before args0 about1 = true := code_word (m := ⟨2, 4⟩) (meth := k2m4) (c := k2c4) (by decide +kernel) rfl rfl rfl (by decide +kernel)
set_option maxRecDepth 65536 in
theorem w_c16 : (Jvm.Cond.code ({ cls := "com/example/trusted_cut/trustedcut/program/Choice", name := "<init>", desc := "(Lcom/example/trusted_cut/trustedcut/program/Unifier;Ljava/util/List;Lcom/example/trusted_cut/trustedcut/program/ClauseWalk;)V" } : Jvm.MethodName) prog_42_method_1_code (4 : Nat) (Option.none : Option Jvm.ClassFile.FieldType)).before args0 about1 = true := code_word (m := ⟨20, 0⟩) (meth := k20m0) (c := k20c0) (by decide +kernel) rfl rfl rfl (by decide +kernel)
set_option maxRecDepth 65536 in
theorem w_c17 : (Jvm.Cond.code ({ cls := "com/example/trusted_cut/trustedcut/program/Choice", name := "unifier", desc := "()Lcom/example/trusted_cut/trustedcut/program/Unifier;" } : Jvm.MethodName) prog_42_method_2_code (1 : Nat) (Option.some (Jvm.ClassFile.FieldType.object "com/example/trusted_cut/trustedcut/program/Unifier"))).before args0 about1 = true := code_word (m := ⟨20, 1⟩) (meth := k20m1) (c := k20c1) (by decide +kernel) rfl rfl rfl (by decide +kernel)
set_option maxRecDepth 65536 in
theorem w_c18 : (Jvm.Cond.code ({ cls := "com/example/trusted_cut/trustedcut/program/Unifier", name := "sharingMarkOf", desc := "(Lcom/example/trusted_cut/trustedcut/program/Unifier;)Lcom/example/trusted_cut/trustedcut/program/Unifier;" } : Jvm.MethodName) prog_90_method_4_code (2 : Nat) (Option.some (Jvm.ClassFile.FieldType.object "com/example/trusted_cut/trustedcut/program/Unifier"))).before args0 about1 = true := code_word (m := ⟨19, 1⟩) (meth := k19m1) (c := k19c1) (by decide +kernel) rfl rfl rfl (by decide +kernel)
set_option maxRecDepth 65536 in
theorem w_c19 : (Jvm.Cond.code ({ cls := "com/example/trusted_cut/trustedcut/program/Choice", name := "follow", desc := "(Lcom/example/trusted_cut/trustedcut/program/Choice;)V" } : Jvm.MethodName) prog_42_method_7_code (2 : Nat) (Option.none : Option Jvm.ClassFile.FieldType)).before args0 about1 = true := code_word (m := ⟨20, 2⟩) (meth := k20m2) (c := k20c2) (by decide +kernel) rfl rfl rfl (by decide +kernel)
def codes1 : List Jvm.Cond := [Jvm.Cond.code x code maxLocals ret, Jvm.Cond.code ({ cls := "com/example/trusted_cut/trustedcut/program/Selections", name := "<init>", desc := "()V" } : Jvm.MethodName) prog_73_method_1_code (1 : Nat) (Option.none : Option Jvm.ClassFile.FieldType), Jvm.Cond.code ({ cls := "java/lang/Object", name := "<init>", desc := "()V" } : Jvm.MethodName) object_method_1_code (1 : Nat) (Option.none : Option Jvm.ClassFile.FieldType), Jvm.Cond.code ({ cls := "com/example/trusted_cut/trustedcut/program/Bindings", name := "<init>", desc := "()V" } : Jvm.MethodName) prog_31_method_1_code (1 : Nat) (Option.none : Option Jvm.ClassFile.FieldType), Jvm.Cond.code ({ cls := "java/util/HashMap", name := "<init>", desc := "()V" } : Jvm.MethodName) jdk_69_method_7_code (1 : Nat) (Option.none : Option Jvm.ClassFile.FieldType), Jvm.Cond.code ({ cls := "java/util/AbstractMap", name := "<init>", desc := "()V" } : Jvm.MethodName) jdk_71_method_1_code (1 : Nat) (Option.none : Option Jvm.ClassFile.FieldType), Jvm.Cond.code ({ cls := "java/util/ArrayList", name := "<init>", desc := "()V" } : Jvm.MethodName) jdk_38_method_2_code (1 : Nat) (Option.none : Option Jvm.ClassFile.FieldType), Jvm.Cond.code ({ cls := "java/util/AbstractList", name := "<init>", desc := "()V" } : Jvm.MethodName) jdk_39_method_1_code (1 : Nat) (Option.none : Option Jvm.ClassFile.FieldType), Jvm.Cond.code ({ cls := "java/util/AbstractCollection", name := "<init>", desc := "()V" } : Jvm.MethodName) jdk_22_method_1_code (1 : Nat) (Option.none : Option Jvm.ClassFile.FieldType), Jvm.Cond.code ({ cls := "com/example/trusted_cut/trustedcut/program/Unifier", name := "<init>", desc := "(I[Lcom/example/trusted_cut/trustedcut/term/Term;)V" } : Jvm.MethodName) prog_90_method_1_code (3 : Nat) (Option.none : Option Jvm.ClassFile.FieldType), Jvm.Cond.code ({ cls := "com/example/trusted_cut/trustedcut/program/Selections", name := "clear", desc := "()V" } : Jvm.MethodName) prog_73_method_4_code (1 : Nat) (Option.none : Option Jvm.ClassFile.FieldType), Jvm.Cond.code ({ cls := "com/example/trusted_cut/trustedcut/program/Selections", name := "goals", desc := "()Ljava/util/List;" } : Jvm.MethodName) prog_73_method_2_code (1 : Nat) (Option.some (Jvm.ClassFile.FieldType.object "java/util/List")), Jvm.Cond.code ({ cls := "com/example/trusted_cut/trustedcut/program/Selections", name := "more", desc := "()Lcom/example/trusted_cut/trustedcut/program/Choice;" } : Jvm.MethodName) prog_73_method_3_code (1 : Nat) (Option.some (Jvm.ClassFile.FieldType.object "com/example/trusted_cut/trustedcut/program/Choice")), Jvm.Cond.code ({ cls := "com/example/trusted_cut/trustedcut/program/Selections", name := "enterFirst", desc := "(Lcom/example/trusted_cut/trustedcut/program/Bindings;)V" } : Jvm.MethodName) prog_73_method_8_code (2 : Nat) (Option.none : Option Jvm.ClassFile.FieldType), Jvm.Cond.code ({ cls := "com/example/trusted_cut/trustedcut/program/Bindings", name := "mark", desc := "()I" } : Jvm.MethodName) prog_31_method_5_code (1 : Nat) (Option.some Jvm.ClassFile.FieldType.int), Jvm.Cond.code ({ cls := "com/example/trusted_cut/trustedcut/program/Selections", name := "add", desc := "(Lcom/example/trusted_cut/trustedcut/program/Unifier;Ljava/util/List;)V" } : Jvm.MethodName) prog_73_method_5_code (4 : Nat) (Option.none : Option Jvm.ClassFile.FieldType), Jvm.Cond.code ({ cls := "com/example/trusted_cut/trustedcut/program/Choice", name := "<init>", desc := "(Lcom/example/trusted_cut/trustedcut/program/Unifier;Ljava/util/List;Lcom/example/trusted_cut/trustedcut/program/ClauseWalk;)V" } : Jvm.MethodName) prog_42_method_1_code (4 : Nat) (Option.none : Option Jvm.ClassFile.FieldType), Jvm.Cond.code ({ cls := "com/example/trusted_cut/trustedcut/program/Choice", name := "unifier", desc := "()Lcom/example/trusted_cut/trustedcut/program/Unifier;" } : Jvm.MethodName) prog_42_method_2_code (1 : Nat) (Option.some (Jvm.ClassFile.FieldType.object "com/example/trusted_cut/trustedcut/program/Unifier")), Jvm.Cond.code ({ cls := "com/example/trusted_cut/trustedcut/program/Unifier", name := "sharingMarkOf", desc := "(Lcom/example/trusted_cut/trustedcut/program/Unifier;)Lcom/example/trusted_cut/trustedcut/program/Unifier;" } : Jvm.MethodName) prog_90_method_4_code (2 : Nat) (Option.some (Jvm.ClassFile.FieldType.object "com/example/trusted_cut/trustedcut/program/Unifier")), Jvm.Cond.code ({ cls := "com/example/trusted_cut/trustedcut/program/Choice", name := "follow", desc := "(Lcom/example/trusted_cut/trustedcut/program/Choice;)V" } : Jvm.MethodName) prog_42_method_7_code (2 : Nat) (Option.none : Option Jvm.ClassFile.FieldType)]
set_option maxRecDepth 65536 in
theorem codes_eq : words1.filter isCode = codes1 := rfl
theorem w_codes : ∀ c ∈ words1.filter isCode, c.before args0 about1 = true := by
  rw [codes_eq]
  intro c hc
  simp only [codes1, List.mem_cons, List.not_mem_nil, or_false] at hc
  rcases hc with rfl | rfl | rfl | rfl | rfl | rfl | rfl | rfl | rfl | rfl | rfl | rfl | rfl | rfl | rfl | rfl | rfl | rfl | rfl | rfl
  · exact w_c0
  · exact w_c1
  · exact w_c2
  · exact w_c3
  · exact w_c4
  · exact w_c5
  · exact w_c6
  · exact w_c7
  · exact w_c8
  · exact w_c9
  · exact w_c10
  · exact w_c11
  · exact w_c12
  · exact w_c13
  · exact w_c14
  · exact w_c15
  · exact w_c16
  · exact w_c17
  · exact w_c18
  · exact w_c19
set_option maxRecDepth 65536 in
theorem w_t1 : (words1.take 24).all (fun c => isCode c || c.before args0 about1) = true := by decide +kernel
set_option maxRecDepth 65536 in
theorem w_t2 : ((words1.drop 24).take 24).all (fun c => isCode c || c.before args0 about1) = true := by decide +kernel
set_option maxRecDepth 65536 in
theorem w_t3 : (((words1.drop 24).drop 24).take 24).all (fun c => isCode c || c.before args0 about1) = true := by decide +kernel
set_option maxRecDepth 65536 in
theorem w_t4 : ((((words1.drop 24).drop 24).drop 24).take 24).all (fun c => isCode c || c.before args0 about1) = true := by decide +kernel
set_option maxRecDepth 65536 in
theorem w_t5 : (((((words1.drop 24).drop 24).drop 24).drop 24).take 24).all (fun c => isCode c || c.before args0 about1) = true := by decide +kernel
set_option maxRecDepth 65536 in
theorem w_t6 : ((((((words1.drop 24).drop 24).drop 24).drop 24).drop 24).take 24).all (fun c => isCode c || c.before args0 about1) = true := by decide +kernel
set_option maxRecDepth 65536 in
theorem w_t7 : ((((((words1.drop 24).drop 24).drop 24).drop 24).drop 24).drop 24).all (fun c => isCode c || c.before args0 about1) = true := by decide +kernel
theorem w_tables : (allAtoms (Jvm.Cond.code x code maxLocals ret :: tables_1)).before args0 about1 = true := by
  rw [allAtoms_all]
  show words1.all (fun c => c.before args0 about1) = true
  refine all_split ?_ w_codes
  rw [← List.take_append_drop 24 words1, List.all_append, w_t1, ← List.take_append_drop 24 (words1.drop 24), List.all_append, w_t2, ← List.take_append_drop 24 ((words1.drop 24).drop 24), List.all_append, w_t3, ← List.take_append_drop 24 (((words1.drop 24).drop 24).drop 24), List.all_append, w_t4, ← List.take_append_drop 24 ((((words1.drop 24).drop 24).drop 24).drop 24), List.all_append, w_t5, ← List.take_append_drop 24 (((((words1.drop 24).drop 24).drop 24).drop 24).drop 24), List.all_append, w_t6, w_t7]
  rfl
set_option maxRecDepth 65536 in
theorem w_rest : rest_1_c.before args0 about1 = true := by decide +kernel
set_option maxRecDepth 65536 in
theorem w_case : (Jvm.Cond.and given_1 narrow_1).before args0 about1 = true := by decide +kernel
theorem w_applies : (headSpec (Jvm.Cond.code x code maxLocals ret :: tables_1) room_1).applies x e0.platform about1 = true :=
  (Spec.applies_iff w_frames).mpr ⟨w_running, w_runnable, w_alone, w_named, w_hears, w_ripe, w_room, w_tables⟩
theorem atStart : AtStart classFile x code maxLocals ret World_1 tables_1 room_1 Calls_1 rest_1 Pre_1 launch0 p0 e0 about1 theMethod args0 below0 :=
  ⟨lists_1, trivial, launch0.admits_env _ _ _, launch0.least_env, fairChoices_fair.cas, fairChoices_fair.clock, w_frames, w_args, w_heap, w_applies, trivial, w_rest, w_case⟩
end start1
theorem witness_1 : WitnessClaimed_1 := ⟨start1.p0, start1.e0, start1.about1, start1.theMethod, start1.args0, start1.below0, start1.atStart⟩
end Jvm.Pilot.@@N@@
