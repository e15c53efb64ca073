import JvmDerived
import JvmDerived.Pilot.@@N@@Statement
import JvmDerived.Pilot.@@N@@Code
set_option linter.unusedVariables false
set_option linter.unusedSimpArgs false
namespace Jvm.RoadKit
open Sem ClassFile Op Lib Jvm.Stand Jvm.Free Jvm.LawKit
section New
variable {p : Program} {l : Launch} {e : Env} {R : Room} {s : State} {m : MethodId} {args : Array Value} {below : List Frame} {meth : Method} {c : Code} {T : State} {locs : List Loc} {cells slots : Nat}
theorem retI (X : Stand p l e R s m args below meth c T locs cells slots) (hx : p.tables.exec = Jvm.exec) {pc : Nat} {Ls : Array Slot} {z : Int32} {rest : List Value} (hret : meth.sig.returnType = some .int) (hd : decode c.code pc = .ok (.ireturn, 1)) {fs : List Frame}
    (hl : ∀ (f : JFrame) (acts : List Action), f.method = m → f.locked = none → f.entered = [] → (doReturn e (T.setTop f) acts (some (.int z))).1 = T.setFrames fs) : Steps p.tables e below (T.setTop (mkF m pc Ls (.int z :: rest))) (T.setFrames fs) := by
  have hm' : T.vm.method? m = some meth := X.method'
  have hn : narrow .int (.int z) = .int z := rfl
  show Steps p.tables e below (T.setTop { method := m, pc := pc, locals := Ls, stack := _ :: rest, locked := none }) _
  jvm_step X.here [X.here.top, hx, hd, hm', hret, hn]
  first | (intro acts; rw [hl _ acts rfl rfl rfl]) | rw [hl _ _ rfl rfl rfl]
  exact Steps.refl _
end New
end Jvm.RoadKit
namespace Jvm.Pilot.@@N@@
open Jvm Jvm.ClassFile Sem Op Lib Jvm.Free Jvm.Stand Jvm.LawKit Jvm.RoadKit Bundle Jvm.Pilot.@@N@@.Jvm.D
def ownD : Option Jvm.Cond → String
  | some (Jvm.Cond.laysStatic _ _ d) => d
  | _ => ""
def DD : String := ownD tables_1[3]?
theorem own_eqInt {a : Term} {k : Int32} {args : Array Value} {first s : State} {o : Option Outcome} {idx : List Nat} (h : (Jvm.Cond.eq a (Term.int k)).value args first o s idx = some true) : a.eval args first o idx s = some (.int k) := by
  simp only [Cond.value, Term.eval] at h
  cases ht : a.eval args first o idx s with
  | none => simp [ht] at h
  | some x => cases x <;> simp [ht] at h ⊢; exact h
theorem own_enum {Z : State} {args : Array Value} {C f d : String} {k : Int32} (hE : (Jvm.Cond.exactly (Term.static C f d) C).value args Z none Z [] = some true) (hO : (Jvm.Cond.eq (Term.field (Term.static C f d) "java/lang/Enum" "ordinal" "I") (Term.int k)).value args Z none Z [] = some true)
    (hi : (Jvm.Cond.initialized C).before args Z = true) (hl : (Jvm.Cond.laysStatic C f d).before args Z = true) : ∃ a, Sta Z Z.heap C f d (.ref a) ∧ Exa Z Z.heap a C ∧ Fld Z Z.heap a "java/lang/Enum" "ordinal" "I" (.int k) := by
  obtain ⟨a, ev⟩ := exa_v hE
  exact ⟨a, Sta.start ev (Or.inr ⟨hi, hl⟩), Exa.start ev hE, Fld.start ((fld_at ev).symm.trans (own_eqInt hO))⟩
def infixV (o x y z : Addr) : Int32 := if o = x then 1 else if o = y then 1 else if o = z then 1 else 0
theorem d1_0 : decode prog_101_method_6_code 0 = .ok (.aload_n 0, 1) := by decide +kernel
theorem d1_1 : decode prog_101_method_6_code 1 = .ok (.getstatic 3, 3) := by decide +kernel
theorem d1_4 : decode prog_101_method_6_code 4 = .ok (.if_acmp .eq 17, 3) := by decide +kernel
theorem d1_7 : decode prog_101_method_6_code 7 = .ok (.aload_n 0, 1) := by decide +kernel
theorem d1_8 : decode prog_101_method_6_code 8 = .ok (.getstatic 7, 3) := by decide +kernel
theorem d1_11 : decode prog_101_method_6_code 11 = .ok (.if_acmp .eq 10, 3) := by decide +kernel
theorem d1_14 : decode prog_101_method_6_code 14 = .ok (.aload_n 0, 1) := by decide +kernel
theorem d1_15 : decode prog_101_method_6_code 15 = .ok (.getstatic 10, 3) := by decide +kernel
theorem d1_18 : decode prog_101_method_6_code 18 = .ok (.if_acmp .ne 7, 3) := by decide +kernel
theorem d1_21 : decode prog_101_method_6_code 21 = .ok (.iconst 1, 1) := by decide +kernel
theorem d1_22 : decode prog_101_method_6_code 22 = .ok (.goto 4, 3) := by decide +kernel
theorem d1_25 : decode prog_101_method_6_code 25 = .ok (.iconst 0, 1) := by decide +kernel
theorem d1_26 : decode prog_101_method_6_code 26 = .ok (.ireturn, 1) := by decide +kernel
theorem pn_0 : plainName site_98.cls = true := by first | (simp [plainName, overriddenIn]; done) | decide +kernel
theorem ef_1 (m : MethodId) (o0 : Addr) : entryFrame m #[(.ref o0)] 1 = mkF m 0 #[.val (.ref o0)] [] := by first | (simp [entryFrame, mkF, argsToLocals, Value.category]; done) | rfl
def Q1 (o0 bXFX bXFY bYFX : Addr) (h0 : Heap) (n0 : Nat) (v : Option Value) (h : Heap) (L : List Loc) : Prop := v = some (.int (infixV o0 bXFX bXFY bYFX)) ∧ Fr n0 L ∧ h = h0
set_option maxRecDepth 65536 in
set_option maxHeartbeats 40000000 in
theorem rm1 (l : Launch) (Z : State) (a0 : Array Value) (hw : ∀ d ∈ tables_1, d.before a0 Z = true) (ws : List Jvm.Cond) (o0 bXFX bXFY bYFX : Addr) (h0 : Heap) (n0 : Nat) (Z0 : n0 ≤ h0.size) (SXFX : Sta Z h0 site_98.cls "XFX" DD (.ref bXFX)) (SXFY : Sta Z h0 site_98.cls "XFY" DD (.ref bXFY)) (SYFX : Sta Z h0 site_98.cls "YFX" DD (.ref bYFX)) :
    MetFree l (⟨site_98.cls, "isInfix", "()Z"⟩ : MethodName) (head1 (Jvm.Cond.code (⟨site_98.cls, "isInfix", "()Z"⟩ : MethodName) prog_101_method_6_code 1 (some .boolean) :: ws) ({ frames := 0, cells := 0, slots := 0, locals := 0 } : Room)) (fun a U => a = #[(.ref o0)] ∧ Z.Warmed39 U.vm ∧ U.heap = h0) (fun _ _ _ _ _ => True) (fun _ U o U' => ∃ v L, o = .returned v ∧ Q1 o0 bXFX bXFY bYFX h0 n0 v U'.heap L ∧ FrameEnd U o U' L ({ frames := 0, cells := 0, slots := 0, locals := 0 } : Room).cells ({ frames := 0, cells := 0, slots := 0, locals := 0 } : Room).slots) := by
  refine MetFree.of_bodySF (plainFor_of_name pn_0) hisR ?_
  intro p e s m args below meth c s₁ Bd hml0 hP hK
  obtain ⟨rfl, hZ, hh⟩ := hP
  have hx := Bd.exec
  have hby := Bd.bytes
  have hml : c.maxLocals = 1 := hml0
  have hown : s.vm.findClass site_98.cls = some m.cls := findClass_of_methodNamed Bd.named
  have hnm := (name_of_methodNamed Bd.named Bd.method).1
  have X0 : Stand p l e ({ frames := 0, cells := 0, slots := 0, locals := 0 } : Room) s m #[(.ref o0)] below meth c s₁ [] 0 0 := Stand.of_body Bd
  have e0 : s₁.heap = h0 := by rw [← hh, Bd.state]; rfl
  have N0 := Fr.nil n0
  have pre0 : ∀ t, Steps p.tables e below (s₁.setTop (mkF m 0 #[.val (.ref o0)] [])) t → Steps p.tables e below (s₁.setTop (entryFrame m #[(.ref o0)] 1)) t := fun t k => castTop (ef_1 m o0) k
  obtain ⟨T1, X1, e1, st1⟩ := getS2 X0 hx hZ hown (host := "") (Or.inl (hw _ (List.mem_of_getElem? (i := 9) rfl))) Via.refl e0 SXFX (g := (mkF m 1 #[.val (.ref o0)] [(.ref o0)])) rfl (hb hby d1_1)
  have pre2 : ∀ t, Steps p.tables e below (T1.setTop (mkF m 4 #[.val (.ref o0)] [(.ref bXFX), (.ref o0)])) t → Steps p.tables e below (s₁.setTop (entryFrame m #[(.ref o0)] 1)) t := fun t kt => pre0 t (by
      show Steps p.tables e below (s₁.setTop (mkF m 0 #[.val (.ref o0)] [])) _
      refine XS.aloadN X0.here hx rfl (hb hby d1_0) rfl rfl ?_
      show Steps p.tables e below (s₁.setTop (mkF m 1 #[.val (.ref o0)] [(.ref o0)])) _
      refine st1 _ ?_
      exact kt)
  by_cases hc4 : o0 = bXFX
  · obtain ⟨fs, hr, hrun, hended, hW, hsame⟩ := X1.leave (v := some (.int (1 : Int32))) (fun h => by rw [Bd.returns] at h; cases h)
    refine ⟨_, _, pre2 _ ?_, hrun, hended, _, _, rfl, ?_, ⟨_, rfl⟩, hW, hsame.mono (by decide) (by decide)⟩
    · show Steps p.tables e below (T1.setTop (mkF m 4 #[.val (.ref o0)] [(.ref bXFX), (.ref o0)])) _
      refine Jvm.RoadKit.acmp (g := (mkF m 4 #[.val (.ref o0)] [(.ref bXFX), (.ref o0)])) X1 hx rfl rfl rfl (pc0 := 4) (pc' := 21) (same := true) rfl (hb hby d1_4) rfl (decide_eq_true (congrArg Value.ref hc4)) (by decide) (by decide) ?_
      show Steps p.tables e below (T1.setTop (mkF m 21 #[.val (.ref o0)] [])) _
      refine XS.iconst X1.here hx rfl (hb hby d1_21) ?_
      show Steps p.tables e below (T1.setTop (mkF m 22 #[.val (.ref o0)] [(.int (1 : Int32))])) _
      refine XS.goto X1.here hx rfl (pc0 := 22) (pc' := 26) rfl (hb hby d1_22) (by decide) (by decide) ?_
      show Steps p.tables e below (T1.setTop (mkF m 26 #[.val (.ref o0)] [(.int (1 : Int32))])) _
      exact retN X1 hx (t := .boolean) Bd.returns (by simp) (hb hby d1_26) hr
    · show Q1 o0 bXFX bXFY bYFX h0 n0 _ T1.heap _
      rw [e1]
      exact ⟨(by rw [infixV, if_pos hc4]), N0, rfl⟩
  · obtain ⟨T3, X3, e3, st3⟩ := getS2 X1 hx hZ hown (host := "") (Or.inl (hw _ (List.mem_of_getElem? (i := 12) rfl))) Via.refl e1 SXFY (g := (mkF m 8 #[.val (.ref o0)] [(.ref o0)])) rfl (hb hby d1_8)
    have pre4 : ∀ t, Steps p.tables e below (T3.setTop (mkF m 11 #[.val (.ref o0)] [(.ref bXFY), (.ref o0)])) t → Steps p.tables e below (s₁.setTop (entryFrame m #[(.ref o0)] 1)) t := fun t kt => pre2 t (by
        show Steps p.tables e below (T1.setTop (mkF m 4 #[.val (.ref o0)] [(.ref bXFX), (.ref o0)])) _
        refine Jvm.RoadKit.acmp (g := (mkF m 4 #[.val (.ref o0)] [(.ref bXFX), (.ref o0)])) X1 hx rfl rfl rfl (pc0 := 4) (pc' := 7) (same := false) rfl (hb hby d1_4) rfl (decide_eq_false fun q => hc4 (Value.ref.inj q)) (by decide) (by decide) ?_
        show Steps p.tables e below (T1.setTop (mkF m 7 #[.val (.ref o0)] [])) _
        refine XS.aloadN X1.here hx rfl (hb hby d1_7) rfl rfl ?_
        show Steps p.tables e below (T1.setTop (mkF m 8 #[.val (.ref o0)] [(.ref o0)])) _
        refine st3 _ ?_
        exact kt)
    by_cases hc11 : o0 = bXFY
    · obtain ⟨fs, hr, hrun, hended, hW, hsame⟩ := X3.leave (v := some (.int (1 : Int32))) (fun h => by rw [Bd.returns] at h; cases h)
      refine ⟨_, _, pre4 _ ?_, hrun, hended, _, _, rfl, ?_, ⟨_, rfl⟩, hW, hsame.mono (by decide) (by decide)⟩
      · show Steps p.tables e below (T3.setTop (mkF m 11 #[.val (.ref o0)] [(.ref bXFY), (.ref o0)])) _
        refine Jvm.RoadKit.acmp (g := (mkF m 11 #[.val (.ref o0)] [(.ref bXFY), (.ref o0)])) X3 hx rfl rfl rfl (pc0 := 11) (pc' := 21) (same := true) rfl (hb hby d1_11) rfl (decide_eq_true (congrArg Value.ref hc11)) (by decide) (by decide) ?_
        show Steps p.tables e below (T3.setTop (mkF m 21 #[.val (.ref o0)] [])) _
        refine XS.iconst X3.here hx rfl (hb hby d1_21) ?_
        show Steps p.tables e below (T3.setTop (mkF m 22 #[.val (.ref o0)] [(.int (1 : Int32))])) _
        refine XS.goto X3.here hx rfl (pc0 := 22) (pc' := 26) rfl (hb hby d1_22) (by decide) (by decide) ?_
        show Steps p.tables e below (T3.setTop (mkF m 26 #[.val (.ref o0)] [(.int (1 : Int32))])) _
        exact retN X3 hx (t := .boolean) Bd.returns (by simp) (hb hby d1_26) hr
      · show Q1 o0 bXFX bXFY bYFX h0 n0 _ T3.heap _
        rw [e3]
        exact ⟨(by rw [infixV, if_neg hc4, if_pos hc11]), N0, rfl⟩
    · obtain ⟨T5, X5, e5, st5⟩ := getS2 X3 hx hZ hown (host := "") (Or.inl (hw _ (List.mem_of_getElem? (i := 14) rfl))) Via.refl e3 SYFX (g := (mkF m 15 #[.val (.ref o0)] [(.ref o0)])) rfl (hb hby d1_15)
      have pre6 : ∀ t, Steps p.tables e below (T5.setTop (mkF m 18 #[.val (.ref o0)] [(.ref bYFX), (.ref o0)])) t → Steps p.tables e below (s₁.setTop (entryFrame m #[(.ref o0)] 1)) t := fun t kt => pre4 t (by
          show Steps p.tables e below (T3.setTop (mkF m 11 #[.val (.ref o0)] [(.ref bXFY), (.ref o0)])) _
          refine Jvm.RoadKit.acmp (g := (mkF m 11 #[.val (.ref o0)] [(.ref bXFY), (.ref o0)])) X3 hx rfl rfl rfl (pc0 := 11) (pc' := 14) (same := false) rfl (hb hby d1_11) rfl (decide_eq_false fun q => hc11 (Value.ref.inj q)) (by decide) (by decide) ?_
          show Steps p.tables e below (T3.setTop (mkF m 14 #[.val (.ref o0)] [])) _
          refine XS.aloadN X3.here hx rfl (hb hby d1_14) rfl rfl ?_
          show Steps p.tables e below (T3.setTop (mkF m 15 #[.val (.ref o0)] [(.ref o0)])) _
          refine st5 _ ?_
          exact kt)
      by_cases hc18 : o0 = bYFX
      · obtain ⟨fs, hr, hrun, hended, hW, hsame⟩ := X5.leave (v := some (.int (1 : Int32))) (fun h => by rw [Bd.returns] at h; cases h)
        refine ⟨_, _, pre6 _ ?_, hrun, hended, _, _, rfl, ?_, ⟨_, rfl⟩, hW, hsame.mono (by decide) (by decide)⟩
        · show Steps p.tables e below (T5.setTop (mkF m 18 #[.val (.ref o0)] [(.ref bYFX), (.ref o0)])) _
          refine Jvm.RoadKit.acmp (g := (mkF m 18 #[.val (.ref o0)] [(.ref bYFX), (.ref o0)])) X5 hx rfl rfl rfl (pc0 := 18) (pc' := 21) (same := true) rfl (hb hby d1_18) rfl (decide_eq_true (congrArg Value.ref hc18)) (by decide) (by decide) ?_
          show Steps p.tables e below (T5.setTop (mkF m 21 #[.val (.ref o0)] [])) _
          refine XS.iconst X5.here hx rfl (hb hby d1_21) ?_
          show Steps p.tables e below (T5.setTop (mkF m 22 #[.val (.ref o0)] [(.int (1 : Int32))])) _
          refine XS.goto X5.here hx rfl (pc0 := 22) (pc' := 26) rfl (hb hby d1_22) (by decide) (by decide) ?_
          show Steps p.tables e below (T5.setTop (mkF m 26 #[.val (.ref o0)] [(.int (1 : Int32))])) _
          exact retN X5 hx (t := .boolean) Bd.returns (by simp) (hb hby d1_26) hr
        · show Q1 o0 bXFX bXFY bYFX h0 n0 _ T5.heap _
          rw [e5]
          exact ⟨(by rw [infixV, if_neg hc4, if_neg hc11, if_pos hc18]), N0, rfl⟩
      · obtain ⟨fs, hr, hrun, hended, hW, hsame⟩ := X5.leave (v := some (.int (0 : Int32))) (fun h => by rw [Bd.returns] at h; cases h)
        refine ⟨_, _, pre6 _ ?_, hrun, hended, _, _, rfl, ?_, ⟨_, rfl⟩, hW, hsame.mono (by decide) (by decide)⟩
        · show Steps p.tables e below (T5.setTop (mkF m 18 #[.val (.ref o0)] [(.ref bYFX), (.ref o0)])) _
          refine Jvm.RoadKit.acmp (g := (mkF m 18 #[.val (.ref o0)] [(.ref bYFX), (.ref o0)])) X5 hx rfl rfl rfl (pc0 := 18) (pc' := 25) (same := false) rfl (hb hby d1_18) rfl (decide_eq_false fun q => hc18 (Value.ref.inj q)) (by decide) (by decide) ?_
          show Steps p.tables e below (T5.setTop (mkF m 25 #[.val (.ref o0)] [])) _
          refine XS.iconst X5.here hx rfl (hb hby d1_25) ?_
          show Steps p.tables e below (T5.setTop (mkF m 26 #[.val (.ref o0)] [(.int (0 : Int32))])) _
          exact retN X5 hx (t := .boolean) Bd.returns (by simp) (hb hby d1_26) hr
        · show Q1 o0 bXFX bXFY bYFX h0 n0 _ T5.heap _
          rw [e5]
          exact ⟨(by rw [infixV, if_neg hc4, if_neg hc11, if_neg hc18]), N0, rfl⟩
theorem pn_1 : plainName x.cls = true := by first | (simp [plainName, overriddenIn]; done) | decide +kernel
theorem pd_0 : parseMethodDescriptor "()Z" = some ⟨[], some .boolean⟩ := by decide +kernel
theorem ef_0 (m : MethodId) (p0 : Int32) : entryFrame m #[(.int p0)] maxLocals = mkF m 0 #[.val (.int p0), .unset, .unset, .unset] [] := by first | (simp [entryFrame, mkF, argsToLocals, Value.category, maxLocals]; done) | rfl
def Q0 (h0 : Heap) (n0 : Nat) (v : Option Value) (h : Heap) (L : List Loc) : Prop := v = some (.int 1) ∧ Fr n0 L
set_option maxRecDepth 65536 in
set_option maxHeartbeats 40000000 in
theorem rm0 (l : Launch) (Z : State) (a0 : Array Value) (hw : ∀ d ∈ tables_1, d.before a0 Z = true) (ws : List Jvm.Cond) (p0 : Int32) (bXFX bXFY bYFX bFX bFY bXF bYF : Addr) (h0 : Heap) (n0 : Nat) (Z0 : n0 ≤ h0.size) (SXFX : Sta Z h0 site_98.cls "XFX" DD (.ref bXFX)) (EXFX : Exa Z h0 bXFX site_98.cls) (OXFX : Fld Z h0 bXFX "java/lang/Enum" "ordinal" "I" (.int (0 : Int32))) (SXFY : Sta Z h0 site_98.cls "XFY" DD (.ref bXFY)) (EXFY : Exa Z h0 bXFY site_98.cls) (OXFY : Fld Z h0 bXFY "java/lang/Enum" "ordinal" "I" (.int (1 : Int32))) (SYFX : Sta Z h0 site_98.cls "YFX" DD (.ref bYFX)) (EYFX : Exa Z h0 bYFX site_98.cls) (OYFX : Fld Z h0 bYFX "java/lang/Enum" "ordinal" "I" (.int (2 : Int32))) (SFX : Sta Z h0 site_98.cls "FX" DD (.ref bFX)) (EFX : Exa Z h0 bFX site_98.cls) (OFX : Fld Z h0 bFX "java/lang/Enum" "ordinal" "I" (.int (3 : Int32))) (SFY : Sta Z h0 site_98.cls "FY" DD (.ref bFY)) (EFY : Exa Z h0 bFY site_98.cls) (OFY : Fld Z h0 bFY "java/lang/Enum" "ordinal" "I" (.int (4 : Int32))) (SXF : Sta Z h0 site_98.cls "XF" DD (.ref bXF)) (EXF : Exa Z h0 bXF site_98.cls) (OXF : Fld Z h0 bXF "java/lang/Enum" "ordinal" "I" (.int (5 : Int32))) (SYF : Sta Z h0 site_98.cls "YF" DD (.ref bYF)) (EYF : Exa Z h0 bYF site_98.cls) (OYF : Fld Z h0 bYF "java/lang/Enum" "ordinal" "I" (.int (6 : Int32))) :
    MetFree l x (head1 (Jvm.Cond.code x code maxLocals ret :: ws) room_1) (fun a U => a = #[(.int p0)] ∧ Z.Warmed39 U.vm ∧ U.heap = h0) (fun _ _ _ _ _ => True) (fun _ U o U' => ∃ v L, o = .returned v ∧ Q0 h0 n0 v U'.heap L ∧ FrameEnd U o U' L 0 0) := by
  refine MetFree.of_bodySF (plainFor_of_name pn_1) hisR ?_
  intro p e s m args below meth c s₁ Bd hml0 hP hK
  obtain ⟨rfl, hZ, hh⟩ := hP
  have hx := Bd.exec
  have hby := Bd.bytes
  have hml : c.maxLocals = 4 := hml0
  have hown : s.vm.findClass x.cls = some m.cls := findClass_of_methodNamed Bd.named
  have hnm := (name_of_methodNamed Bd.named Bd.method).1
  have X0 : Stand p l e room_1 s m #[(.int p0)] below meth c s₁ [] 0 0 := Stand.of_body Bd
  have e0 : s₁.heap = h0 := by rw [← hh, Bd.state]; rfl
  have N0 := Fr.nil n0
  have pre0 : ∀ t, Steps p.tables e below (s₁.setTop (mkF m 0 #[.val (.int p0), .unset, .unset, .unset] [])) t → Steps p.tables e below (s₁.setTop (entryFrame m #[(.int p0)] maxLocals)) t := fun t k => castTop (ef_0 m p0) k
  have pre1 : ∀ t, Steps p.tables e below (s₁.setTop (mkF m 8 #[.val (.int p0), .val (.int ((p0 &&& (2147483647 : Int32)) - ((p0 &&& (2147483647 : Int32)) / (7 : Int32)) * (7 : Int32))), .unset, .unset] [])) t → Steps p.tables e below (s₁.setTop (entryFrame m #[(.int p0)] maxLocals)) t := fun t kt => pre0 t (by
      show Steps p.tables e below (s₁.setTop (mkF m 0 #[.val (.int p0), .unset, .unset, .unset] [])) _
      refine XS.iloadN X0.here hx rfl (hb hby at_0) rfl ?_
      show Steps p.tables e below (s₁.setTop (mkF m 1 #[.val (.int p0), .unset, .unset, .unset] [(.int p0)])) _
      refine X0.ldcI hx hown (mvT hZ (hw _ (List.mem_of_getElem? (i := 0) rfl))) (g := (mkF m 1 #[.val (.int p0), .unset, .unset, .unset] [(.int p0)])) rfl (hb hby at_1) ?_
      show Steps p.tables e below (s₁.setTop (mkF m 3 #[.val (.int p0), .unset, .unset, .unset] [(.int (2147483647 : Int32)), (.int p0)])) _
      refine XS.iand X0.here hx rfl (hb hby at_3) rfl ?_
      show Steps p.tables e below (s₁.setTop (mkF m 4 #[.val (.int p0), .unset, .unset, .unset] [(.int (p0 &&& (2147483647 : Int32)))])) _
      refine XS.bipush X0.here hx rfl (hb hby at_4) ?_
      show Steps p.tables e below (s₁.setTop (mkF m 6 #[.val (.int p0), .unset, .unset, .unset] [(.int (7 : Int32)), (.int (p0 &&& (2147483647 : Int32)))])) _
      refine XS.irem X0.here hx rfl (hb hby at_6) rfl (by decide) ?_
      show Steps p.tables e below (s₁.setTop (mkF m 7 #[.val (.int p0), .unset, .unset, .unset] [(.int ((p0 &&& (2147483647 : Int32)) - ((p0 &&& (2147483647 : Int32)) / (7 : Int32)) * (7 : Int32)))])) _
      refine XS.istoreN X0.here hx rfl (hb hby at_7) rfl (l' := #[.val (.int p0), .val (.int ((p0 &&& (2147483647 : Int32)) - ((p0 &&& (2147483647 : Int32)) / (7 : Int32)) * (7 : Int32))), .unset, .unset]) rfl ?_
      exact kt)
  obtain ⟨i, hi⟩ : ∃ z : Int32, z = ((p0 &&& (2147483647 : Int32)) - ((p0 &&& (2147483647 : Int32)) / (7 : Int32)) * (7 : Int32)) := ⟨_, rfl⟩
  rw [← hi] at pre1
  have pre2 : ∀ t, Steps p.tables e below (s₁.setTop (mkF m 9 #[.val (.int p0), .val (.int i), .unset, .unset] [(.int i)])) t → Steps p.tables e below (s₁.setTop (entryFrame m #[(.int p0)] maxLocals)) t := fun t kt => pre1 t (by
      show Steps p.tables e below (s₁.setTop (mkF m 8 #[.val (.int p0), .val (.int i), .unset, .unset] [])) _
      refine XS.iloadN X0.here hx rfl (hb hby at_8) rfl ?_
      exact kt)
  by_cases hc9 : i = (0 : Int32)
  · obtain ⟨T3, X3, e3, st3⟩ := getS2 X0 hx hZ hown (host := "") (Or.inl (hw _ (List.mem_of_getElem? (i := 1) rfl))) Via.refl e0 SXFX (g := (mkF m 12 #[.val (.int p0), .val (.int i), .unset, .unset] [])) rfl (hb hby at_12)
    obtain ⟨cq4, kq4, q4a, q4b, q4c⟩ := isOf hZ e3 EXFX
    obtain ⟨_, _, ⟨T4, L4, k4, n4⟩, -, X4, ⟨Lc4, hQ4, l4, y4, z4⟩, st4⟩ := X3.virtualBack hx (y := (⟨site_98.cls, "isInfix", "()Z"⟩ : MethodName)) (z := (⟨site_98.cls, "isInfix", "()Z"⟩ : MethodName)) hown (mvT hZ (hw _ (List.mem_of_getElem? (i := 4) rfl))) (mvT hZ (hw _ (List.mem_of_getElem? (i := 5) rfl))) (notFace_of_selects (args := #[]) (mvT hZ (hw _ (List.mem_of_getElem? (i := 7) rfl)))) (mvT hZ (hw _ (List.mem_of_getElem? (i := 7) rfl))) (mvT hZ (hw _ (List.mem_of_getElem? (i := 6) rfl))) (by decide) (backOf (W := 0) (rm1 l Z a0 hw [] bXFX bXFX bXFY bYFX h0 n0 Z0 SXFX SXFY SYFX) hZ (hw _ (List.mem_of_getElem? (i := 8) rfl)) (hw _ (List.mem_of_getElem? (i := 2) rfl)) (by decide) (by decide)) q4a q4c (g := (mkF m 98 #[.val (.int p0), .val (.int i), .val (.ref bXFX), .val (.int (1 : Int32))] [(.ref bXFX)])) rfl (by rw [hml]; rfl) (Steps.refl _) (argsL := []) (rest := []) (lenOf pd_0 rfl) rfl (by show 2 * 0 + _ ≤ _; exact Nat.le_of_eq rfl) (hb hby at_98) (fun _ _ => ⟨rfl, e3, (by decide : 0 + 0 ≤ _), (by decide : 0 + 0 ≤ _)⟩)
    dsimp only [Pt.U, Pt.locs, Pt.cells, Pt.slots] at X4 l4 y4 z4 st4 hQ4
    subst l4 y4 z4
    obtain ⟨rfl, N4q, e4⟩ := hQ4
    have N4 := Fr.app N0 N4q
    obtain ⟨fs, hr, hrun, hended, hW, hsame⟩ := X4.leave (v := some (.int (1 : Int32))) (fun h => by rw [Bd.returns] at h; cases h)
    refine ⟨_, _, pre2 _ ?_, hrun, hended, _, _, rfl, ?_, ⟨_, rfl⟩, hW, hsame.mono (by decide) (by decide)⟩
    · show Steps p.tables e below (s₁.setTop (mkF m 9 #[.val (.int p0), .val (.int i), .unset, .unset] [(.int i)])) _
      refine XS.ifNo X0.here hx rfl (hb hby at_9) rfl ((if0 _ _).trans (teq (show i = (0 : Int32) from hc9)).2) ?_
      show Steps p.tables e below (s₁.setTop (mkF m 12 #[.val (.int p0), .val (.int i), .unset, .unset] [])) _
      refine st3 _ ?_
      show Steps p.tables e below (T3.setTop (mkF m 15 #[.val (.int p0), .val (.int i), .unset, .unset] [(.ref bXFX)])) _
      refine XS.astoreN X3.here hx rfl (hb hby at_15) rfl rfl (l' := #[.val (.int p0), .val (.int i), .val (.ref bXFX), .unset]) rfl ?_
      show Steps p.tables e below (T3.setTop (mkF m 16 #[.val (.int p0), .val (.int i), .val (.ref bXFX), .unset] [])) _
      refine XS.iconst X3.here hx rfl (hb hby at_16) ?_
      show Steps p.tables e below (T3.setTop (mkF m 17 #[.val (.int p0), .val (.int i), .val (.ref bXFX), .unset] [(.int (1 : Int32))])) _
      refine XS.istoreN X3.here hx rfl (hb hby at_17) rfl (l' := #[.val (.int p0), .val (.int i), .val (.ref bXFX), .val (.int (1 : Int32))]) rfl ?_
      show Steps p.tables e below (T3.setTop (mkF m 18 #[.val (.int p0), .val (.int i), .val (.ref bXFX), .val (.int (1 : Int32))] [])) _
      refine XS.goto X3.here hx rfl (pc0 := 18) (pc' := 97) rfl (hb hby at_18) (by decide) (by decide) ?_
      show Steps p.tables e below (T3.setTop (mkF m 97 #[.val (.int p0), .val (.int i), .val (.ref bXFX), .val (.int (1 : Int32))] [])) _
      refine XS.aloadN X3.here hx rfl (hb hby at_97) rfl rfl ?_
      show Steps p.tables e below (T3.setTop (mkF m 98 #[.val (.int p0), .val (.int i), .val (.ref bXFX), .val (.int (1 : Int32))] [(.ref bXFX)])) _
      refine st4.trans ?_
      show Steps p.tables e below (T4.setTop (mkF m 101 #[.val (.int p0), .val (.int i), .val (.ref bXFX), .val (.int (1 : Int32))] [(.int (infixV bXFX bXFX bXFY bYFX))])) _
      refine XS.iloadN X4.here hx rfl (hb hby at_101) rfl ?_
      show Steps p.tables e below (T4.setTop (mkF m 102 #[.val (.int p0), .val (.int i), .val (.ref bXFX), .val (.int (1 : Int32))] [(.int (1 : Int32)), (.int (infixV bXFX bXFX bXFY bYFX))])) _
      refine XS.icmpNo X4.here hx rfl (hb hby at_102) rfl (teq (show (infixV bXFX bXFX bXFY bYFX) = (1 : Int32) from (by rw [infixV, if_pos rfl]))).2 ?_
      show Steps p.tables e below (T4.setTop (mkF m 105 #[.val (.int p0), .val (.int i), .val (.ref bXFX), .val (.int (1 : Int32))] [])) _
      refine XS.iconst X4.here hx rfl (hb hby at_105) ?_
      show Steps p.tables e below (T4.setTop (mkF m 106 #[.val (.int p0), .val (.int i), .val (.ref bXFX), .val (.int (1 : Int32))] [(.int (1 : Int32))])) _
      refine XS.goto X4.here hx rfl (pc0 := 106) (pc' := 110) rfl (hb hby at_106) (by decide) (by decide) ?_
      show Steps p.tables e below (T4.setTop (mkF m 110 #[.val (.int p0), .val (.int i), .val (.ref bXFX), .val (.int (1 : Int32))] [(.int (1 : Int32))])) _
      exact retN X4 hx (t := .boolean) Bd.returns (by simp) (hb hby at_110) hr
    · show Q0 h0 n0 _ T4.heap _
      rw [e4]
      exact ⟨rfl, N4⟩
  · have pre5 : ∀ t, Steps p.tables e below (s₁.setTop (mkF m 23 #[.val (.int p0), .val (.int i), .unset, .unset] [(.int (1 : Int32)), (.int i)])) t → Steps p.tables e below (s₁.setTop (entryFrame m #[(.int p0)] maxLocals)) t := fun t kt => pre2 t (by
        show Steps p.tables e below (s₁.setTop (mkF m 9 #[.val (.int p0), .val (.int i), .unset, .unset] [(.int i)])) _
        refine XS.ifYes X0.here hx rfl (pc0 := 9) (pc' := 21) rfl (hb hby at_9) rfl ((if0 _ _).trans (feq (show ¬ (i = (0 : Int32)) from hc9)).2) (by decide) (by decide) ?_
        show Steps p.tables e below (s₁.setTop (mkF m 21 #[.val (.int p0), .val (.int i), .unset, .unset] [])) _
        refine XS.iloadN X0.here hx rfl (hb hby at_21) rfl ?_
        show Steps p.tables e below (s₁.setTop (mkF m 22 #[.val (.int p0), .val (.int i), .unset, .unset] [(.int i)])) _
        refine XS.iconst X0.here hx rfl (hb hby at_22) ?_
        exact kt)
    by_cases hc23 : i = (1 : Int32)
    · obtain ⟨T6, X6, e6, st6⟩ := getS2 X0 hx hZ hown (host := "") (Or.inl (hw _ (List.mem_of_getElem? (i := 23) rfl))) Via.refl e0 SXFY (g := (mkF m 26 #[.val (.int p0), .val (.int i), .unset, .unset] [])) rfl (hb hby at_26)
      obtain ⟨cq7, kq7, q7a, q7b, q7c⟩ := isOf hZ e6 EXFY
      obtain ⟨_, _, ⟨T7, L7, k7, n7⟩, -, X7, ⟨Lc7, hQ7, l7, y7, z7⟩, st7⟩ := X6.virtualBack hx (y := (⟨site_98.cls, "isInfix", "()Z"⟩ : MethodName)) (z := (⟨site_98.cls, "isInfix", "()Z"⟩ : MethodName)) hown (mvT hZ (hw _ (List.mem_of_getElem? (i := 4) rfl))) (mvT hZ (hw _ (List.mem_of_getElem? (i := 5) rfl))) (notFace_of_selects (args := #[]) (mvT hZ (hw _ (List.mem_of_getElem? (i := 7) rfl)))) (mvT hZ (hw _ (List.mem_of_getElem? (i := 7) rfl))) (mvT hZ (hw _ (List.mem_of_getElem? (i := 6) rfl))) (by decide) (backOf (W := 0) (rm1 l Z a0 hw [] bXFY bXFX bXFY bYFX h0 n0 Z0 SXFX SXFY SYFX) hZ (hw _ (List.mem_of_getElem? (i := 8) rfl)) (hw _ (List.mem_of_getElem? (i := 2) rfl)) (by decide) (by decide)) q7a q7c (g := (mkF m 98 #[.val (.int p0), .val (.int i), .val (.ref bXFY), .val (.int (1 : Int32))] [(.ref bXFY)])) rfl (by rw [hml]; rfl) (Steps.refl _) (argsL := []) (rest := []) (lenOf pd_0 rfl) rfl (by show 2 * 0 + _ ≤ _; exact Nat.le_of_eq rfl) (hb hby at_98) (fun _ _ => ⟨rfl, e6, (by decide : 0 + 0 ≤ _), (by decide : 0 + 0 ≤ _)⟩)
      dsimp only [Pt.U, Pt.locs, Pt.cells, Pt.slots] at X7 l7 y7 z7 st7 hQ7
      subst l7 y7 z7
      obtain ⟨rfl, N7q, e7⟩ := hQ7
      have N7 := Fr.app N0 N7q
      obtain ⟨fs, hr, hrun, hended, hW, hsame⟩ := X7.leave (v := some (.int (1 : Int32))) (fun h => by rw [Bd.returns] at h; cases h)
      refine ⟨_, _, pre5 _ ?_, hrun, hended, _, _, rfl, ?_, ⟨_, rfl⟩, hW, hsame.mono (by decide) (by decide)⟩
      · show Steps p.tables e below (s₁.setTop (mkF m 23 #[.val (.int p0), .val (.int i), .unset, .unset] [(.int (1 : Int32)), (.int i)])) _
        refine XS.icmpNo X0.here hx rfl (hb hby at_23) rfl (teq (show i = (1 : Int32) from hc23)).2 ?_
        show Steps p.tables e below (s₁.setTop (mkF m 26 #[.val (.int p0), .val (.int i), .unset, .unset] [])) _
        refine st6 _ ?_
        show Steps p.tables e below (T6.setTop (mkF m 29 #[.val (.int p0), .val (.int i), .unset, .unset] [(.ref bXFY)])) _
        refine XS.astoreN X6.here hx rfl (hb hby at_29) rfl rfl (l' := #[.val (.int p0), .val (.int i), .val (.ref bXFY), .unset]) rfl ?_
        show Steps p.tables e below (T6.setTop (mkF m 30 #[.val (.int p0), .val (.int i), .val (.ref bXFY), .unset] [])) _
        refine XS.iconst X6.here hx rfl (hb hby at_30) ?_
        show Steps p.tables e below (T6.setTop (mkF m 31 #[.val (.int p0), .val (.int i), .val (.ref bXFY), .unset] [(.int (1 : Int32))])) _
        refine XS.istoreN X6.here hx rfl (hb hby at_31) rfl (l' := #[.val (.int p0), .val (.int i), .val (.ref bXFY), .val (.int (1 : Int32))]) rfl ?_
        show Steps p.tables e below (T6.setTop (mkF m 32 #[.val (.int p0), .val (.int i), .val (.ref bXFY), .val (.int (1 : Int32))] [])) _
        refine XS.goto X6.here hx rfl (pc0 := 32) (pc' := 97) rfl (hb hby at_32) (by decide) (by decide) ?_
        show Steps p.tables e below (T6.setTop (mkF m 97 #[.val (.int p0), .val (.int i), .val (.ref bXFY), .val (.int (1 : Int32))] [])) _
        refine XS.aloadN X6.here hx rfl (hb hby at_97) rfl rfl ?_
        show Steps p.tables e below (T6.setTop (mkF m 98 #[.val (.int p0), .val (.int i), .val (.ref bXFY), .val (.int (1 : Int32))] [(.ref bXFY)])) _
        refine st7.trans ?_
        show Steps p.tables e below (T7.setTop (mkF m 101 #[.val (.int p0), .val (.int i), .val (.ref bXFY), .val (.int (1 : Int32))] [(.int (infixV bXFY bXFX bXFY bYFX))])) _
        refine XS.iloadN X7.here hx rfl (hb hby at_101) rfl ?_
        show Steps p.tables e below (T7.setTop (mkF m 102 #[.val (.int p0), .val (.int i), .val (.ref bXFY), .val (.int (1 : Int32))] [(.int (1 : Int32)), (.int (infixV bXFY bXFX bXFY bYFX))])) _
        refine XS.icmpNo X7.here hx rfl (hb hby at_102) rfl (teq (show (infixV bXFY bXFX bXFY bYFX) = (1 : Int32) from (by rw [infixV, if_neg (Fld.ne OXFY OXFX (by decide)), if_pos rfl]))).2 ?_
        show Steps p.tables e below (T7.setTop (mkF m 105 #[.val (.int p0), .val (.int i), .val (.ref bXFY), .val (.int (1 : Int32))] [])) _
        refine XS.iconst X7.here hx rfl (hb hby at_105) ?_
        show Steps p.tables e below (T7.setTop (mkF m 106 #[.val (.int p0), .val (.int i), .val (.ref bXFY), .val (.int (1 : Int32))] [(.int (1 : Int32))])) _
        refine XS.goto X7.here hx rfl (pc0 := 106) (pc' := 110) rfl (hb hby at_106) (by decide) (by decide) ?_
        show Steps p.tables e below (T7.setTop (mkF m 110 #[.val (.int p0), .val (.int i), .val (.ref bXFY), .val (.int (1 : Int32))] [(.int (1 : Int32))])) _
        exact retN X7 hx (t := .boolean) Bd.returns (by simp) (hb hby at_110) hr
      · show Q0 h0 n0 _ T7.heap _
        rw [e7]
        exact ⟨rfl, N7⟩
    · have pre8 : ∀ t, Steps p.tables e below (s₁.setTop (mkF m 37 #[.val (.int p0), .val (.int i), .unset, .unset] [(.int (2 : Int32)), (.int i)])) t → Steps p.tables e below (s₁.setTop (entryFrame m #[(.int p0)] maxLocals)) t := fun t kt => pre5 t (by
          show Steps p.tables e below (s₁.setTop (mkF m 23 #[.val (.int p0), .val (.int i), .unset, .unset] [(.int (1 : Int32)), (.int i)])) _
          refine XS.icmpYes X0.here hx rfl (pc0 := 23) (pc' := 35) rfl (hb hby at_23) rfl (feq (show ¬ (i = (1 : Int32)) from hc23)).2 (by decide) (by decide) ?_
          show Steps p.tables e below (s₁.setTop (mkF m 35 #[.val (.int p0), .val (.int i), .unset, .unset] [])) _
          refine XS.iloadN X0.here hx rfl (hb hby at_35) rfl ?_
          show Steps p.tables e below (s₁.setTop (mkF m 36 #[.val (.int p0), .val (.int i), .unset, .unset] [(.int i)])) _
          refine XS.iconst X0.here hx rfl (hb hby at_36) ?_
          exact kt)
      by_cases hc37 : i = (2 : Int32)
      · obtain ⟨T9, X9, e9, st9⟩ := getS2 X0 hx hZ hown (host := "") (Or.inl (hw _ (List.mem_of_getElem? (i := 22) rfl))) Via.refl e0 SYFX (g := (mkF m 40 #[.val (.int p0), .val (.int i), .unset, .unset] [])) rfl (hb hby at_40)
        obtain ⟨cq10, kq10, q10a, q10b, q10c⟩ := isOf hZ e9 EYFX
        obtain ⟨_, _, ⟨T10, L10, k10, n10⟩, -, X10, ⟨Lc10, hQ10, l10, y10, z10⟩, st10⟩ := X9.virtualBack hx (y := (⟨site_98.cls, "isInfix", "()Z"⟩ : MethodName)) (z := (⟨site_98.cls, "isInfix", "()Z"⟩ : MethodName)) hown (mvT hZ (hw _ (List.mem_of_getElem? (i := 4) rfl))) (mvT hZ (hw _ (List.mem_of_getElem? (i := 5) rfl))) (notFace_of_selects (args := #[]) (mvT hZ (hw _ (List.mem_of_getElem? (i := 7) rfl)))) (mvT hZ (hw _ (List.mem_of_getElem? (i := 7) rfl))) (mvT hZ (hw _ (List.mem_of_getElem? (i := 6) rfl))) (by decide) (backOf (W := 0) (rm1 l Z a0 hw [] bYFX bXFX bXFY bYFX h0 n0 Z0 SXFX SXFY SYFX) hZ (hw _ (List.mem_of_getElem? (i := 8) rfl)) (hw _ (List.mem_of_getElem? (i := 2) rfl)) (by decide) (by decide)) q10a q10c (g := (mkF m 98 #[.val (.int p0), .val (.int i), .val (.ref bYFX), .val (.int (1 : Int32))] [(.ref bYFX)])) rfl (by rw [hml]; rfl) (Steps.refl _) (argsL := []) (rest := []) (lenOf pd_0 rfl) rfl (by show 2 * 0 + _ ≤ _; exact Nat.le_of_eq rfl) (hb hby at_98) (fun _ _ => ⟨rfl, e9, (by decide : 0 + 0 ≤ _), (by decide : 0 + 0 ≤ _)⟩)
        dsimp only [Pt.U, Pt.locs, Pt.cells, Pt.slots] at X10 l10 y10 z10 st10 hQ10
        subst l10 y10 z10
        obtain ⟨rfl, N10q, e10⟩ := hQ10
        have N10 := Fr.app N0 N10q
        obtain ⟨fs, hr, hrun, hended, hW, hsame⟩ := X10.leave (v := some (.int (1 : Int32))) (fun h => by rw [Bd.returns] at h; cases h)
        refine ⟨_, _, pre8 _ ?_, hrun, hended, _, _, rfl, ?_, ⟨_, rfl⟩, hW, hsame.mono (by decide) (by decide)⟩
        · show Steps p.tables e below (s₁.setTop (mkF m 37 #[.val (.int p0), .val (.int i), .unset, .unset] [(.int (2 : Int32)), (.int i)])) _
          refine XS.icmpNo X0.here hx rfl (hb hby at_37) rfl (teq (show i = (2 : Int32) from hc37)).2 ?_
          show Steps p.tables e below (s₁.setTop (mkF m 40 #[.val (.int p0), .val (.int i), .unset, .unset] [])) _
          refine st9 _ ?_
          show Steps p.tables e below (T9.setTop (mkF m 43 #[.val (.int p0), .val (.int i), .unset, .unset] [(.ref bYFX)])) _
          refine XS.astoreN X9.here hx rfl (hb hby at_43) rfl rfl (l' := #[.val (.int p0), .val (.int i), .val (.ref bYFX), .unset]) rfl ?_
          show Steps p.tables e below (T9.setTop (mkF m 44 #[.val (.int p0), .val (.int i), .val (.ref bYFX), .unset] [])) _
          refine XS.iconst X9.here hx rfl (hb hby at_44) ?_
          show Steps p.tables e below (T9.setTop (mkF m 45 #[.val (.int p0), .val (.int i), .val (.ref bYFX), .unset] [(.int (1 : Int32))])) _
          refine XS.istoreN X9.here hx rfl (hb hby at_45) rfl (l' := #[.val (.int p0), .val (.int i), .val (.ref bYFX), .val (.int (1 : Int32))]) rfl ?_
          show Steps p.tables e below (T9.setTop (mkF m 46 #[.val (.int p0), .val (.int i), .val (.ref bYFX), .val (.int (1 : Int32))] [])) _
          refine XS.goto X9.here hx rfl (pc0 := 46) (pc' := 97) rfl (hb hby at_46) (by decide) (by decide) ?_
          show Steps p.tables e below (T9.setTop (mkF m 97 #[.val (.int p0), .val (.int i), .val (.ref bYFX), .val (.int (1 : Int32))] [])) _
          refine XS.aloadN X9.here hx rfl (hb hby at_97) rfl rfl ?_
          show Steps p.tables e below (T9.setTop (mkF m 98 #[.val (.int p0), .val (.int i), .val (.ref bYFX), .val (.int (1 : Int32))] [(.ref bYFX)])) _
          refine st10.trans ?_
          show Steps p.tables e below (T10.setTop (mkF m 101 #[.val (.int p0), .val (.int i), .val (.ref bYFX), .val (.int (1 : Int32))] [(.int (infixV bYFX bXFX bXFY bYFX))])) _
          refine XS.iloadN X10.here hx rfl (hb hby at_101) rfl ?_
          show Steps p.tables e below (T10.setTop (mkF m 102 #[.val (.int p0), .val (.int i), .val (.ref bYFX), .val (.int (1 : Int32))] [(.int (1 : Int32)), (.int (infixV bYFX bXFX bXFY bYFX))])) _
          refine XS.icmpNo X10.here hx rfl (hb hby at_102) rfl (teq (show (infixV bYFX bXFX bXFY bYFX) = (1 : Int32) from (by rw [infixV, if_neg (Fld.ne OYFX OXFX (by decide)), if_neg (Fld.ne OYFX OXFY (by decide)), if_pos rfl]))).2 ?_
          show Steps p.tables e below (T10.setTop (mkF m 105 #[.val (.int p0), .val (.int i), .val (.ref bYFX), .val (.int (1 : Int32))] [])) _
          refine XS.iconst X10.here hx rfl (hb hby at_105) ?_
          show Steps p.tables e below (T10.setTop (mkF m 106 #[.val (.int p0), .val (.int i), .val (.ref bYFX), .val (.int (1 : Int32))] [(.int (1 : Int32))])) _
          refine XS.goto X10.here hx rfl (pc0 := 106) (pc' := 110) rfl (hb hby at_106) (by decide) (by decide) ?_
          show Steps p.tables e below (T10.setTop (mkF m 110 #[.val (.int p0), .val (.int i), .val (.ref bYFX), .val (.int (1 : Int32))] [(.int (1 : Int32))])) _
          exact retN X10 hx (t := .boolean) Bd.returns (by simp) (hb hby at_110) hr
        · show Q0 h0 n0 _ T10.heap _
          rw [e10]
          exact ⟨rfl, N10⟩
      · have pre11 : ∀ t, Steps p.tables e below (s₁.setTop (mkF m 51 #[.val (.int p0), .val (.int i), .unset, .unset] [(.int (3 : Int32)), (.int i)])) t → Steps p.tables e below (s₁.setTop (entryFrame m #[(.int p0)] maxLocals)) t := fun t kt => pre8 t (by
            show Steps p.tables e below (s₁.setTop (mkF m 37 #[.val (.int p0), .val (.int i), .unset, .unset] [(.int (2 : Int32)), (.int i)])) _
            refine XS.icmpYes X0.here hx rfl (pc0 := 37) (pc' := 49) rfl (hb hby at_37) rfl (feq (show ¬ (i = (2 : Int32)) from hc37)).2 (by decide) (by decide) ?_
            show Steps p.tables e below (s₁.setTop (mkF m 49 #[.val (.int p0), .val (.int i), .unset, .unset] [])) _
            refine XS.iloadN X0.here hx rfl (hb hby at_49) rfl ?_
            show Steps p.tables e below (s₁.setTop (mkF m 50 #[.val (.int p0), .val (.int i), .unset, .unset] [(.int i)])) _
            refine XS.iconst X0.here hx rfl (hb hby at_50) ?_
            exact kt)
        by_cases hc51 : i = (3 : Int32)
        · obtain ⟨T12, X12, e12, st12⟩ := getS2 X0 hx hZ hown (host := "") (Or.inl (hw _ (List.mem_of_getElem? (i := 10) rfl))) Via.refl e0 SFX (g := (mkF m 54 #[.val (.int p0), .val (.int i), .unset, .unset] [])) rfl (hb hby at_54)
          obtain ⟨cq13, kq13, q13a, q13b, q13c⟩ := isOf hZ e12 EFX
          obtain ⟨_, _, ⟨T13, L13, k13, n13⟩, -, X13, ⟨Lc13, hQ13, l13, y13, z13⟩, st13⟩ := X12.virtualBack hx (y := (⟨site_98.cls, "isInfix", "()Z"⟩ : MethodName)) (z := (⟨site_98.cls, "isInfix", "()Z"⟩ : MethodName)) hown (mvT hZ (hw _ (List.mem_of_getElem? (i := 4) rfl))) (mvT hZ (hw _ (List.mem_of_getElem? (i := 5) rfl))) (notFace_of_selects (args := #[]) (mvT hZ (hw _ (List.mem_of_getElem? (i := 7) rfl)))) (mvT hZ (hw _ (List.mem_of_getElem? (i := 7) rfl))) (mvT hZ (hw _ (List.mem_of_getElem? (i := 6) rfl))) (by decide) (backOf (W := 0) (rm1 l Z a0 hw [] bFX bXFX bXFY bYFX h0 n0 Z0 SXFX SXFY SYFX) hZ (hw _ (List.mem_of_getElem? (i := 8) rfl)) (hw _ (List.mem_of_getElem? (i := 2) rfl)) (by decide) (by decide)) q13a q13c (g := (mkF m 98 #[.val (.int p0), .val (.int i), .val (.ref bFX), .val (.int (0 : Int32))] [(.ref bFX)])) rfl (by rw [hml]; rfl) (Steps.refl _) (argsL := []) (rest := []) (lenOf pd_0 rfl) rfl (by show 2 * 0 + _ ≤ _; exact Nat.le_of_eq rfl) (hb hby at_98) (fun _ _ => ⟨rfl, e12, (by decide : 0 + 0 ≤ _), (by decide : 0 + 0 ≤ _)⟩)
          dsimp only [Pt.U, Pt.locs, Pt.cells, Pt.slots] at X13 l13 y13 z13 st13 hQ13
          subst l13 y13 z13
          obtain ⟨rfl, N13q, e13⟩ := hQ13
          have N13 := Fr.app N0 N13q
          obtain ⟨fs, hr, hrun, hended, hW, hsame⟩ := X13.leave (v := some (.int (1 : Int32))) (fun h => by rw [Bd.returns] at h; cases h)
          refine ⟨_, _, pre11 _ ?_, hrun, hended, _, _, rfl, ?_, ⟨_, rfl⟩, hW, hsame.mono (by decide) (by decide)⟩
          · show Steps p.tables e below (s₁.setTop (mkF m 51 #[.val (.int p0), .val (.int i), .unset, .unset] [(.int (3 : Int32)), (.int i)])) _
            refine XS.icmpNo X0.here hx rfl (hb hby at_51) rfl (teq (show i = (3 : Int32) from hc51)).2 ?_
            show Steps p.tables e below (s₁.setTop (mkF m 54 #[.val (.int p0), .val (.int i), .unset, .unset] [])) _
            refine st12 _ ?_
            show Steps p.tables e below (T12.setTop (mkF m 57 #[.val (.int p0), .val (.int i), .unset, .unset] [(.ref bFX)])) _
            refine XS.astoreN X12.here hx rfl (hb hby at_57) rfl rfl (l' := #[.val (.int p0), .val (.int i), .val (.ref bFX), .unset]) rfl ?_
            show Steps p.tables e below (T12.setTop (mkF m 58 #[.val (.int p0), .val (.int i), .val (.ref bFX), .unset] [])) _
            refine XS.iconst X12.here hx rfl (hb hby at_58) ?_
            show Steps p.tables e below (T12.setTop (mkF m 59 #[.val (.int p0), .val (.int i), .val (.ref bFX), .unset] [(.int (0 : Int32))])) _
            refine XS.istoreN X12.here hx rfl (hb hby at_59) rfl (l' := #[.val (.int p0), .val (.int i), .val (.ref bFX), .val (.int (0 : Int32))]) rfl ?_
            show Steps p.tables e below (T12.setTop (mkF m 60 #[.val (.int p0), .val (.int i), .val (.ref bFX), .val (.int (0 : Int32))] [])) _
            refine XS.goto X12.here hx rfl (pc0 := 60) (pc' := 97) rfl (hb hby at_60) (by decide) (by decide) ?_
            show Steps p.tables e below (T12.setTop (mkF m 97 #[.val (.int p0), .val (.int i), .val (.ref bFX), .val (.int (0 : Int32))] [])) _
            refine XS.aloadN X12.here hx rfl (hb hby at_97) rfl rfl ?_
            show Steps p.tables e below (T12.setTop (mkF m 98 #[.val (.int p0), .val (.int i), .val (.ref bFX), .val (.int (0 : Int32))] [(.ref bFX)])) _
            refine st13.trans ?_
            show Steps p.tables e below (T13.setTop (mkF m 101 #[.val (.int p0), .val (.int i), .val (.ref bFX), .val (.int (0 : Int32))] [(.int (infixV bFX bXFX bXFY bYFX))])) _
            refine XS.iloadN X13.here hx rfl (hb hby at_101) rfl ?_
            show Steps p.tables e below (T13.setTop (mkF m 102 #[.val (.int p0), .val (.int i), .val (.ref bFX), .val (.int (0 : Int32))] [(.int (0 : Int32)), (.int (infixV bFX bXFX bXFY bYFX))])) _
            refine XS.icmpNo X13.here hx rfl (hb hby at_102) rfl (teq (show (infixV bFX bXFX bXFY bYFX) = (0 : Int32) from (by rw [infixV, if_neg (Fld.ne OFX OXFX (by decide)), if_neg (Fld.ne OFX OXFY (by decide)), if_neg (Fld.ne OFX OYFX (by decide))]))).2 ?_
            show Steps p.tables e below (T13.setTop (mkF m 105 #[.val (.int p0), .val (.int i), .val (.ref bFX), .val (.int (0 : Int32))] [])) _
            refine XS.iconst X13.here hx rfl (hb hby at_105) ?_
            show Steps p.tables e below (T13.setTop (mkF m 106 #[.val (.int p0), .val (.int i), .val (.ref bFX), .val (.int (0 : Int32))] [(.int (1 : Int32))])) _
            refine XS.goto X13.here hx rfl (pc0 := 106) (pc' := 110) rfl (hb hby at_106) (by decide) (by decide) ?_
            show Steps p.tables e below (T13.setTop (mkF m 110 #[.val (.int p0), .val (.int i), .val (.ref bFX), .val (.int (0 : Int32))] [(.int (1 : Int32))])) _
            exact retN X13 hx (t := .boolean) Bd.returns (by simp) (hb hby at_110) hr
          · show Q0 h0 n0 _ T13.heap _
            rw [e13]
            exact ⟨rfl, N13⟩
        · have pre14 : ∀ t, Steps p.tables e below (s₁.setTop (mkF m 65 #[.val (.int p0), .val (.int i), .unset, .unset] [(.int (4 : Int32)), (.int i)])) t → Steps p.tables e below (s₁.setTop (entryFrame m #[(.int p0)] maxLocals)) t := fun t kt => pre11 t (by
              show Steps p.tables e below (s₁.setTop (mkF m 51 #[.val (.int p0), .val (.int i), .unset, .unset] [(.int (3 : Int32)), (.int i)])) _
              refine XS.icmpYes X0.here hx rfl (pc0 := 51) (pc' := 63) rfl (hb hby at_51) rfl (feq (show ¬ (i = (3 : Int32)) from hc51)).2 (by decide) (by decide) ?_
              show Steps p.tables e below (s₁.setTop (mkF m 63 #[.val (.int p0), .val (.int i), .unset, .unset] [])) _
              refine XS.iloadN X0.here hx rfl (hb hby at_63) rfl ?_
              show Steps p.tables e below (s₁.setTop (mkF m 64 #[.val (.int p0), .val (.int i), .unset, .unset] [(.int i)])) _
              refine XS.iconst X0.here hx rfl (hb hby at_64) ?_
              exact kt)
          by_cases hc65 : i = (4 : Int32)
          · obtain ⟨T15, X15, e15, st15⟩ := getS2 X0 hx hZ hown (host := "") (Or.inl (hw _ (List.mem_of_getElem? (i := 20) rfl))) Via.refl e0 SFY (g := (mkF m 68 #[.val (.int p0), .val (.int i), .unset, .unset] [])) rfl (hb hby at_68)
            obtain ⟨cq16, kq16, q16a, q16b, q16c⟩ := isOf hZ e15 EFY
            obtain ⟨_, _, ⟨T16, L16, k16, n16⟩, -, X16, ⟨Lc16, hQ16, l16, y16, z16⟩, st16⟩ := X15.virtualBack hx (y := (⟨site_98.cls, "isInfix", "()Z"⟩ : MethodName)) (z := (⟨site_98.cls, "isInfix", "()Z"⟩ : MethodName)) hown (mvT hZ (hw _ (List.mem_of_getElem? (i := 4) rfl))) (mvT hZ (hw _ (List.mem_of_getElem? (i := 5) rfl))) (notFace_of_selects (args := #[]) (mvT hZ (hw _ (List.mem_of_getElem? (i := 7) rfl)))) (mvT hZ (hw _ (List.mem_of_getElem? (i := 7) rfl))) (mvT hZ (hw _ (List.mem_of_getElem? (i := 6) rfl))) (by decide) (backOf (W := 0) (rm1 l Z a0 hw [] bFY bXFX bXFY bYFX h0 n0 Z0 SXFX SXFY SYFX) hZ (hw _ (List.mem_of_getElem? (i := 8) rfl)) (hw _ (List.mem_of_getElem? (i := 2) rfl)) (by decide) (by decide)) q16a q16c (g := (mkF m 98 #[.val (.int p0), .val (.int i), .val (.ref bFY), .val (.int (0 : Int32))] [(.ref bFY)])) rfl (by rw [hml]; rfl) (Steps.refl _) (argsL := []) (rest := []) (lenOf pd_0 rfl) rfl (by show 2 * 0 + _ ≤ _; exact Nat.le_of_eq rfl) (hb hby at_98) (fun _ _ => ⟨rfl, e15, (by decide : 0 + 0 ≤ _), (by decide : 0 + 0 ≤ _)⟩)
            dsimp only [Pt.U, Pt.locs, Pt.cells, Pt.slots] at X16 l16 y16 z16 st16 hQ16
            subst l16 y16 z16
            obtain ⟨rfl, N16q, e16⟩ := hQ16
            have N16 := Fr.app N0 N16q
            obtain ⟨fs, hr, hrun, hended, hW, hsame⟩ := X16.leave (v := some (.int (1 : Int32))) (fun h => by rw [Bd.returns] at h; cases h)
            refine ⟨_, _, pre14 _ ?_, hrun, hended, _, _, rfl, ?_, ⟨_, rfl⟩, hW, hsame.mono (by decide) (by decide)⟩
            · show Steps p.tables e below (s₁.setTop (mkF m 65 #[.val (.int p0), .val (.int i), .unset, .unset] [(.int (4 : Int32)), (.int i)])) _
              refine XS.icmpNo X0.here hx rfl (hb hby at_65) rfl (teq (show i = (4 : Int32) from hc65)).2 ?_
              show Steps p.tables e below (s₁.setTop (mkF m 68 #[.val (.int p0), .val (.int i), .unset, .unset] [])) _
              refine st15 _ ?_
              show Steps p.tables e below (T15.setTop (mkF m 71 #[.val (.int p0), .val (.int i), .unset, .unset] [(.ref bFY)])) _
              refine XS.astoreN X15.here hx rfl (hb hby at_71) rfl rfl (l' := #[.val (.int p0), .val (.int i), .val (.ref bFY), .unset]) rfl ?_
              show Steps p.tables e below (T15.setTop (mkF m 72 #[.val (.int p0), .val (.int i), .val (.ref bFY), .unset] [])) _
              refine XS.iconst X15.here hx rfl (hb hby at_72) ?_
              show Steps p.tables e below (T15.setTop (mkF m 73 #[.val (.int p0), .val (.int i), .val (.ref bFY), .unset] [(.int (0 : Int32))])) _
              refine XS.istoreN X15.here hx rfl (hb hby at_73) rfl (l' := #[.val (.int p0), .val (.int i), .val (.ref bFY), .val (.int (0 : Int32))]) rfl ?_
              show Steps p.tables e below (T15.setTop (mkF m 74 #[.val (.int p0), .val (.int i), .val (.ref bFY), .val (.int (0 : Int32))] [])) _
              refine XS.goto X15.here hx rfl (pc0 := 74) (pc' := 97) rfl (hb hby at_74) (by decide) (by decide) ?_
              show Steps p.tables e below (T15.setTop (mkF m 97 #[.val (.int p0), .val (.int i), .val (.ref bFY), .val (.int (0 : Int32))] [])) _
              refine XS.aloadN X15.here hx rfl (hb hby at_97) rfl rfl ?_
              show Steps p.tables e below (T15.setTop (mkF m 98 #[.val (.int p0), .val (.int i), .val (.ref bFY), .val (.int (0 : Int32))] [(.ref bFY)])) _
              refine st16.trans ?_
              show Steps p.tables e below (T16.setTop (mkF m 101 #[.val (.int p0), .val (.int i), .val (.ref bFY), .val (.int (0 : Int32))] [(.int (infixV bFY bXFX bXFY bYFX))])) _
              refine XS.iloadN X16.here hx rfl (hb hby at_101) rfl ?_
              show Steps p.tables e below (T16.setTop (mkF m 102 #[.val (.int p0), .val (.int i), .val (.ref bFY), .val (.int (0 : Int32))] [(.int (0 : Int32)), (.int (infixV bFY bXFX bXFY bYFX))])) _
              refine XS.icmpNo X16.here hx rfl (hb hby at_102) rfl (teq (show (infixV bFY bXFX bXFY bYFX) = (0 : Int32) from (by rw [infixV, if_neg (Fld.ne OFY OXFX (by decide)), if_neg (Fld.ne OFY OXFY (by decide)), if_neg (Fld.ne OFY OYFX (by decide))]))).2 ?_
              show Steps p.tables e below (T16.setTop (mkF m 105 #[.val (.int p0), .val (.int i), .val (.ref bFY), .val (.int (0 : Int32))] [])) _
              refine XS.iconst X16.here hx rfl (hb hby at_105) ?_
              show Steps p.tables e below (T16.setTop (mkF m 106 #[.val (.int p0), .val (.int i), .val (.ref bFY), .val (.int (0 : Int32))] [(.int (1 : Int32))])) _
              refine XS.goto X16.here hx rfl (pc0 := 106) (pc' := 110) rfl (hb hby at_106) (by decide) (by decide) ?_
              show Steps p.tables e below (T16.setTop (mkF m 110 #[.val (.int p0), .val (.int i), .val (.ref bFY), .val (.int (0 : Int32))] [(.int (1 : Int32))])) _
              exact retN X16 hx (t := .boolean) Bd.returns (by simp) (hb hby at_110) hr
            · show Q0 h0 n0 _ T16.heap _
              rw [e16]
              exact ⟨rfl, N16⟩
          · have pre17 : ∀ t, Steps p.tables e below (s₁.setTop (mkF m 79 #[.val (.int p0), .val (.int i), .unset, .unset] [(.int (5 : Int32)), (.int i)])) t → Steps p.tables e below (s₁.setTop (entryFrame m #[(.int p0)] maxLocals)) t := fun t kt => pre14 t (by
                show Steps p.tables e below (s₁.setTop (mkF m 65 #[.val (.int p0), .val (.int i), .unset, .unset] [(.int (4 : Int32)), (.int i)])) _
                refine XS.icmpYes X0.here hx rfl (pc0 := 65) (pc' := 77) rfl (hb hby at_65) rfl (feq (show ¬ (i = (4 : Int32)) from hc65)).2 (by decide) (by decide) ?_
                show Steps p.tables e below (s₁.setTop (mkF m 77 #[.val (.int p0), .val (.int i), .unset, .unset] [])) _
                refine XS.iloadN X0.here hx rfl (hb hby at_77) rfl ?_
                show Steps p.tables e below (s₁.setTop (mkF m 78 #[.val (.int p0), .val (.int i), .unset, .unset] [(.int i)])) _
                refine XS.iconst X0.here hx rfl (hb hby at_78) ?_
                exact kt)
            by_cases hc79 : i = (5 : Int32)
            · obtain ⟨T18, X18, e18, st18⟩ := getS2 X0 hx hZ hown (host := "") (Or.inl (hw _ (List.mem_of_getElem? (i := 16) rfl))) Via.refl e0 SXF (g := (mkF m 82 #[.val (.int p0), .val (.int i), .unset, .unset] [])) rfl (hb hby at_82)
              obtain ⟨cq19, kq19, q19a, q19b, q19c⟩ := isOf hZ e18 EXF
              obtain ⟨_, _, ⟨T19, L19, k19, n19⟩, -, X19, ⟨Lc19, hQ19, l19, y19, z19⟩, st19⟩ := X18.virtualBack hx (y := (⟨site_98.cls, "isInfix", "()Z"⟩ : MethodName)) (z := (⟨site_98.cls, "isInfix", "()Z"⟩ : MethodName)) hown (mvT hZ (hw _ (List.mem_of_getElem? (i := 4) rfl))) (mvT hZ (hw _ (List.mem_of_getElem? (i := 5) rfl))) (notFace_of_selects (args := #[]) (mvT hZ (hw _ (List.mem_of_getElem? (i := 7) rfl)))) (mvT hZ (hw _ (List.mem_of_getElem? (i := 7) rfl))) (mvT hZ (hw _ (List.mem_of_getElem? (i := 6) rfl))) (by decide) (backOf (W := 0) (rm1 l Z a0 hw [] bXF bXFX bXFY bYFX h0 n0 Z0 SXFX SXFY SYFX) hZ (hw _ (List.mem_of_getElem? (i := 8) rfl)) (hw _ (List.mem_of_getElem? (i := 2) rfl)) (by decide) (by decide)) q19a q19c (g := (mkF m 98 #[.val (.int p0), .val (.int i), .val (.ref bXF), .val (.int (0 : Int32))] [(.ref bXF)])) rfl (by rw [hml]; rfl) (Steps.refl _) (argsL := []) (rest := []) (lenOf pd_0 rfl) rfl (by show 2 * 0 + _ ≤ _; exact Nat.le_of_eq rfl) (hb hby at_98) (fun _ _ => ⟨rfl, e18, (by decide : 0 + 0 ≤ _), (by decide : 0 + 0 ≤ _)⟩)
              dsimp only [Pt.U, Pt.locs, Pt.cells, Pt.slots] at X19 l19 y19 z19 st19 hQ19
              subst l19 y19 z19
              obtain ⟨rfl, N19q, e19⟩ := hQ19
              have N19 := Fr.app N0 N19q
              obtain ⟨fs, hr, hrun, hended, hW, hsame⟩ := X19.leave (v := some (.int (1 : Int32))) (fun h => by rw [Bd.returns] at h; cases h)
              refine ⟨_, _, pre17 _ ?_, hrun, hended, _, _, rfl, ?_, ⟨_, rfl⟩, hW, hsame.mono (by decide) (by decide)⟩
              · show Steps p.tables e below (s₁.setTop (mkF m 79 #[.val (.int p0), .val (.int i), .unset, .unset] [(.int (5 : Int32)), (.int i)])) _
                refine XS.icmpNo X0.here hx rfl (hb hby at_79) rfl (teq (show i = (5 : Int32) from hc79)).2 ?_
                show Steps p.tables e below (s₁.setTop (mkF m 82 #[.val (.int p0), .val (.int i), .unset, .unset] [])) _
                refine st18 _ ?_
                show Steps p.tables e below (T18.setTop (mkF m 85 #[.val (.int p0), .val (.int i), .unset, .unset] [(.ref bXF)])) _
                refine XS.astoreN X18.here hx rfl (hb hby at_85) rfl rfl (l' := #[.val (.int p0), .val (.int i), .val (.ref bXF), .unset]) rfl ?_
                show Steps p.tables e below (T18.setTop (mkF m 86 #[.val (.int p0), .val (.int i), .val (.ref bXF), .unset] [])) _
                refine XS.iconst X18.here hx rfl (hb hby at_86) ?_
                show Steps p.tables e below (T18.setTop (mkF m 87 #[.val (.int p0), .val (.int i), .val (.ref bXF), .unset] [(.int (0 : Int32))])) _
                refine XS.istoreN X18.here hx rfl (hb hby at_87) rfl (l' := #[.val (.int p0), .val (.int i), .val (.ref bXF), .val (.int (0 : Int32))]) rfl ?_
                show Steps p.tables e below (T18.setTop (mkF m 88 #[.val (.int p0), .val (.int i), .val (.ref bXF), .val (.int (0 : Int32))] [])) _
                refine XS.goto X18.here hx rfl (pc0 := 88) (pc' := 97) rfl (hb hby at_88) (by decide) (by decide) ?_
                show Steps p.tables e below (T18.setTop (mkF m 97 #[.val (.int p0), .val (.int i), .val (.ref bXF), .val (.int (0 : Int32))] [])) _
                refine XS.aloadN X18.here hx rfl (hb hby at_97) rfl rfl ?_
                show Steps p.tables e below (T18.setTop (mkF m 98 #[.val (.int p0), .val (.int i), .val (.ref bXF), .val (.int (0 : Int32))] [(.ref bXF)])) _
                refine st19.trans ?_
                show Steps p.tables e below (T19.setTop (mkF m 101 #[.val (.int p0), .val (.int i), .val (.ref bXF), .val (.int (0 : Int32))] [(.int (infixV bXF bXFX bXFY bYFX))])) _
                refine XS.iloadN X19.here hx rfl (hb hby at_101) rfl ?_
                show Steps p.tables e below (T19.setTop (mkF m 102 #[.val (.int p0), .val (.int i), .val (.ref bXF), .val (.int (0 : Int32))] [(.int (0 : Int32)), (.int (infixV bXF bXFX bXFY bYFX))])) _
                refine XS.icmpNo X19.here hx rfl (hb hby at_102) rfl (teq (show (infixV bXF bXFX bXFY bYFX) = (0 : Int32) from (by rw [infixV, if_neg (Fld.ne OXF OXFX (by decide)), if_neg (Fld.ne OXF OXFY (by decide)), if_neg (Fld.ne OXF OYFX (by decide))]))).2 ?_
                show Steps p.tables e below (T19.setTop (mkF m 105 #[.val (.int p0), .val (.int i), .val (.ref bXF), .val (.int (0 : Int32))] [])) _
                refine XS.iconst X19.here hx rfl (hb hby at_105) ?_
                show Steps p.tables e below (T19.setTop (mkF m 106 #[.val (.int p0), .val (.int i), .val (.ref bXF), .val (.int (0 : Int32))] [(.int (1 : Int32))])) _
                refine XS.goto X19.here hx rfl (pc0 := 106) (pc' := 110) rfl (hb hby at_106) (by decide) (by decide) ?_
                show Steps p.tables e below (T19.setTop (mkF m 110 #[.val (.int p0), .val (.int i), .val (.ref bXF), .val (.int (0 : Int32))] [(.int (1 : Int32))])) _
                exact retN X19 hx (t := .boolean) Bd.returns (by simp) (hb hby at_110) hr
              · show Q0 h0 n0 _ T19.heap _
                rw [e19]
                exact ⟨rfl, N19⟩
            · obtain ⟨T20, X20, e20, st20⟩ := getS2 X0 hx hZ hown (host := "") (Or.inl (hw _ (List.mem_of_getElem? (i := 18) rfl))) Via.refl e0 SYF (g := (mkF m 91 #[.val (.int p0), .val (.int i), .unset, .unset] [])) rfl (hb hby at_91)
              obtain ⟨cq21, kq21, q21a, q21b, q21c⟩ := isOf hZ e20 EYF
              obtain ⟨_, _, ⟨T21, L21, k21, n21⟩, -, X21, ⟨Lc21, hQ21, l21, y21, z21⟩, st21⟩ := X20.virtualBack hx (y := (⟨site_98.cls, "isInfix", "()Z"⟩ : MethodName)) (z := (⟨site_98.cls, "isInfix", "()Z"⟩ : MethodName)) hown (mvT hZ (hw _ (List.mem_of_getElem? (i := 4) rfl))) (mvT hZ (hw _ (List.mem_of_getElem? (i := 5) rfl))) (notFace_of_selects (args := #[]) (mvT hZ (hw _ (List.mem_of_getElem? (i := 7) rfl)))) (mvT hZ (hw _ (List.mem_of_getElem? (i := 7) rfl))) (mvT hZ (hw _ (List.mem_of_getElem? (i := 6) rfl))) (by decide) (backOf (W := 0) (rm1 l Z a0 hw [] bYF bXFX bXFY bYFX h0 n0 Z0 SXFX SXFY SYFX) hZ (hw _ (List.mem_of_getElem? (i := 8) rfl)) (hw _ (List.mem_of_getElem? (i := 2) rfl)) (by decide) (by decide)) q21a q21c (g := (mkF m 98 #[.val (.int p0), .val (.int i), .val (.ref bYF), .val (.int (0 : Int32))] [(.ref bYF)])) rfl (by rw [hml]; rfl) (Steps.refl _) (argsL := []) (rest := []) (lenOf pd_0 rfl) rfl (by show 2 * 0 + _ ≤ _; exact Nat.le_of_eq rfl) (hb hby at_98) (fun _ _ => ⟨rfl, e20, (by decide : 0 + 0 ≤ _), (by decide : 0 + 0 ≤ _)⟩)
              dsimp only [Pt.U, Pt.locs, Pt.cells, Pt.slots] at X21 l21 y21 z21 st21 hQ21
              subst l21 y21 z21
              obtain ⟨rfl, N21q, e21⟩ := hQ21
              have N21 := Fr.app N0 N21q
              obtain ⟨fs, hr, hrun, hended, hW, hsame⟩ := X21.leave (v := some (.int (1 : Int32))) (fun h => by rw [Bd.returns] at h; cases h)
              refine ⟨_, _, pre17 _ ?_, hrun, hended, _, _, rfl, ?_, ⟨_, rfl⟩, hW, hsame.mono (by decide) (by decide)⟩
              · show Steps p.tables e below (s₁.setTop (mkF m 79 #[.val (.int p0), .val (.int i), .unset, .unset] [(.int (5 : Int32)), (.int i)])) _
                refine XS.icmpYes X0.here hx rfl (pc0 := 79) (pc' := 91) rfl (hb hby at_79) rfl (feq (show ¬ (i = (5 : Int32)) from hc79)).2 (by decide) (by decide) ?_
                show Steps p.tables e below (s₁.setTop (mkF m 91 #[.val (.int p0), .val (.int i), .unset, .unset] [])) _
                refine st20 _ ?_
                show Steps p.tables e below (T20.setTop (mkF m 94 #[.val (.int p0), .val (.int i), .unset, .unset] [(.ref bYF)])) _
                refine XS.astoreN X20.here hx rfl (hb hby at_94) rfl rfl (l' := #[.val (.int p0), .val (.int i), .val (.ref bYF), .unset]) rfl ?_
                show Steps p.tables e below (T20.setTop (mkF m 95 #[.val (.int p0), .val (.int i), .val (.ref bYF), .unset] [])) _
                refine XS.iconst X20.here hx rfl (hb hby at_95) ?_
                show Steps p.tables e below (T20.setTop (mkF m 96 #[.val (.int p0), .val (.int i), .val (.ref bYF), .unset] [(.int (0 : Int32))])) _
                refine XS.istoreN X20.here hx rfl (hb hby at_96) rfl (l' := #[.val (.int p0), .val (.int i), .val (.ref bYF), .val (.int (0 : Int32))]) rfl ?_
                show Steps p.tables e below (T20.setTop (mkF m 97 #[.val (.int p0), .val (.int i), .val (.ref bYF), .val (.int (0 : Int32))] [])) _
                refine XS.aloadN X20.here hx rfl (hb hby at_97) rfl rfl ?_
                show Steps p.tables e below (T20.setTop (mkF m 98 #[.val (.int p0), .val (.int i), .val (.ref bYF), .val (.int (0 : Int32))] [(.ref bYF)])) _
                refine st21.trans ?_
                show Steps p.tables e below (T21.setTop (mkF m 101 #[.val (.int p0), .val (.int i), .val (.ref bYF), .val (.int (0 : Int32))] [(.int (infixV bYF bXFX bXFY bYFX))])) _
                refine XS.iloadN X21.here hx rfl (hb hby at_101) rfl ?_
                show Steps p.tables e below (T21.setTop (mkF m 102 #[.val (.int p0), .val (.int i), .val (.ref bYF), .val (.int (0 : Int32))] [(.int (0 : Int32)), (.int (infixV bYF bXFX bXFY bYFX))])) _
                refine XS.icmpNo X21.here hx rfl (hb hby at_102) rfl (teq (show (infixV bYF bXFX bXFY bYFX) = (0 : Int32) from (by rw [infixV, if_neg (Fld.ne OYF OXFX (by decide)), if_neg (Fld.ne OYF OXFY (by decide)), if_neg (Fld.ne OYF OYFX (by decide))]))).2 ?_
                show Steps p.tables e below (T21.setTop (mkF m 105 #[.val (.int p0), .val (.int i), .val (.ref bYF), .val (.int (0 : Int32))] [])) _
                refine XS.iconst X21.here hx rfl (hb hby at_105) ?_
                show Steps p.tables e below (T21.setTop (mkF m 106 #[.val (.int p0), .val (.int i), .val (.ref bYF), .val (.int (0 : Int32))] [(.int (1 : Int32))])) _
                refine XS.goto X21.here hx rfl (pc0 := 106) (pc' := 110) rfl (hb hby at_106) (by decide) (by decide) ?_
                show Steps p.tables e below (T21.setTop (mkF m 110 #[.val (.int p0), .val (.int i), .val (.ref bYF), .val (.int (0 : Int32))] [(.int (1 : Int32))])) _
                exact retN X21 hx (t := .boolean) Bd.returns (by simp) (hb hby at_110) hr
              · show Q0 h0 n0 _ T21.heap _
                rw [e21]
                exact ⟨rfl, N21⟩
set_option maxRecDepth 65536 in
set_option maxHeartbeats 40000000 in
theorem comes_1 {Post : Tables → Env → Array Value → State → Outcome → State → Prop} (hpost : ∀ tb e args s v u, (limb_1_1.after args s (.returned v) u = true ∧ limb_1_2.after args s (.returned v) u = true ∧ True) → FrameEnd s (.returned v) u (Jvm.fieldLocs frame_1_writes args s ++ Jvm.arrayLocs frame_1_arrays args s ++ Jvm.staticLocs frame_1_statics s) 0 0 → Post tb e args s (.returned v) u) :
    ArmFor flags0 classFile x code maxLocals ret World_1 tables_1 room_1 Calls_1 rest_1 Pre_1 Post := by
  intro l hfl _ _ p e ha hc hk s m args below hf hA hF happ hP
  obtain ⟨hcalls, hrest, hpre⟩ := hP
  obtain ⟨-, -, -, hnamed, -, -, -, hat⟩ := (Spec.applies_iff hf).mp happ
  obtain ⟨hg, hn⟩ := and_e (Cond.before_iff.mp (show (Jvm.Cond.and given_1 narrow_1).before args s = true from hpre))
  obtain ⟨hcnt, hg1⟩ := and_e hg
  have ha0 := hg1
  obtain ⟨w0, rfl⟩ : ∃ w0 : Value, args = #[w0] := by
    have hs : args.size = 1 := by simpa [Cond.value, given_1] using hcnt
    obtain ⟨L⟩ := args
    match L, hs with
    | [w0], _ => exact ⟨w0, rfl⟩
  have hw := fun d (hd : d ∈ tables_1) => atoms_spec (ws := Jvm.Cond.code x code maxLocals ret :: tables_1) hat d (List.mem_cons_of_mem _ hd)
  have hfit : Fit s := fun {y c} hc i hi => by
    obtain ⟨ha, rfl⟩ := Array.getElem?_eq_some_iff.mp hc
    have q := List.all_eq_true.mp ((Array.all_eq_true_iff_forall_mem.mp hF) _ (Array.getElem_mem ha)) i (List.mem_range.mpr hi)
    simpa [Array.getElem?_eq_getElem hi] using q
  obtain ⟨i0, ei0⟩ := is_v ha0
  obtain rfl : w0 = (.int i0) := Option.some.inj ei0
  obtain ⟨hn0, hm0⟩ := and_e hn
  obtain ⟨hn1, hm1⟩ := and_e hm0
  obtain ⟨hn2, hm2⟩ := and_e hm1
  obtain ⟨hn3, hm3⟩ := and_e hm2
  obtain ⟨hn4, hm4⟩ := and_e hm3
  obtain ⟨hn5, hm5⟩ := and_e hm4
  obtain ⟨hn6, hm6⟩ := and_e hm5
  obtain ⟨hn7, hm7⟩ := and_e hm6
  obtain ⟨hn8, hm8⟩ := and_e hm7
  obtain ⟨hn9, hm9⟩ := and_e hm8
  obtain ⟨hn10, hm10⟩ := and_e hm9
  obtain ⟨hn11, hm11⟩ := and_e hm10
  obtain ⟨hn12, hn13⟩ := and_e hm11
  obtain ⟨bXFX, SXFX, EXFX, OXFX⟩ := own_enum hn0 hn3 (hw _ (List.mem_of_getElem? (i := 2) rfl)) (hw _ (List.mem_of_getElem? (i := 3) rfl))
  obtain ⟨bXFY, SXFY, EXFY, OXFY⟩ := own_enum hn4 hn5 (hw _ (List.mem_of_getElem? (i := 2) rfl)) (hw _ (List.mem_of_getElem? (i := 13) rfl))
  obtain ⟨bYFX, SYFX, EYFX, OYFX⟩ := own_enum hn6 hn7 (hw _ (List.mem_of_getElem? (i := 2) rfl)) (hw _ (List.mem_of_getElem? (i := 15) rfl))
  obtain ⟨bFX, SFX, EFX, OFX⟩ := own_enum hn1 hn2 (hw _ (List.mem_of_getElem? (i := 2) rfl)) (hw _ (List.mem_of_getElem? (i := 11) rfl))
  obtain ⟨bFY, SFY, EFY, OFY⟩ := own_enum hn12 hn13 (hw _ (List.mem_of_getElem? (i := 2) rfl)) (hw _ (List.mem_of_getElem? (i := 21) rfl))
  obtain ⟨bXF, SXF, EXF, OXF⟩ := own_enum hn8 hn9 (hw _ (List.mem_of_getElem? (i := 2) rfl)) (hw _ (List.mem_of_getElem? (i := 17) rfl))
  obtain ⟨bYF, SYF, EYF, OYF⟩ := own_enum hn10 hn11 (hw _ (List.mem_of_getElem? (i := 2) rfl)) (hw _ (List.mem_of_getElem? (i := 19) rfl))
  obtain ⟨n, o, h1, h2, h3, _, L, rfl, ⟨rfl, N⟩, hq⟩ := rm0 l s _ hw tables_1 i0 bXFX bXFY bYFX bFX bFY bXF bYF s.heap s.heap.size (Nat.le_refl _) SXFX EXFX OXFX SXFY EXFY OXFY SYFX EYFX OYFX SFX EFX OFX SFY EFY OFY SXF EXF OXF SYF EYF OYF p e ha hc hk s m _ below hf ((Spec.applies_iff_loose hf).mp happ).1 ⟨rfl, State.Warmed39.refl s, rfl⟩ trivial
  refine ⟨n, _, h1, h2, h3, hpost _ _ _ _ _ _ ⟨Cond.after_iff.mpr rfl, Cond.after_iff.mpr (eq_i res_at (Term.int_eval (1)) rfl), trivial⟩ ⟨hq.1, hq.2.1, (hq.2.2.sift fun y hy => Or.inr (N y hy)).mono (by decide) (by decide)⟩⟩
theorem main_1_1 : Claimed_1_1 := comes_1 fun _ _ _ _ _ _ h hF => ⟨h.1, hF⟩
theorem main_1_2 : Claimed_1_2 := comes_1 fun _ _ _ _ _ _ h hF => ⟨h.2.1, hF⟩
end Jvm.Pilot.@@N@@
namespace Jvm.Pilot.@@N@@
open Jvm Jvm.ClassFile Sem Op Lib Jvm.Free Jvm.Stand Jvm.Pilot.@@N@@.Jvm.D
/-! MADE BY PROGRAM (witnessworld.py) out of the Statement's table words and the real class files: 12 classes; the members and pool entries that the words name. The judged class is class 1, her method 1. -/
namespace start1
open Jvm.ClassFile
def u (s : String) : CpInfo := .utf8 (stringToUtf16 s)
/-- a pool by its gaps: so many unusable entries, then the entry; so many at the end -/
def gap : Nat → List CpInfo → List CpInfo
  | 0, r => r
  | n + 1, r => .unusable :: gap n r
def poolList (es : List (Nat × CpInfo)) (last : Nat) : List CpInfo := es.foldr (fun e r => gap e.1 (e.2 :: r)) (gap last [])
def pool (es : List (Nat × CpInfo)) (last : Nat) : Array CpInfo := ⟨poolList es last⟩
def fileOf (pool : Array CpInfo) (this : Nat) (attrs : Array Attribute := #[]) (ms : Array MethodInfo := #[]) (fl : Nat := 33) (sup : Nat := 0) (ifs : Array Nat := #[]) (fds : Array FieldInfo := #[]) : ClassFile where
  minorVersion := 0
  majorVersion := 65
  constantPool := pool
  accessFlags := fl
  thisClass := this
  superClass := sup
  interfaces := ifs
  fields := fds
  methods := ms
  attributes := attrs
def plain (name : String) (sup : Option ClassId) : Class where
  name := name
  kind := .ordinary
  loader := none
  accessFlags := 33
  super := sup
  interfaces := #[]
  cf := none
  fields := #[]
  methods := #[]
  instanceTypes := #[]
  staticTypes := #[]
  resolved := #[]
  callSites := []
  init := .initialized
  statics := none
  mirror := none

def pool0 : Array CpInfo := pool [(5, u "<init>"), (0, u "()V"), (1, .class_ 10), (1, u "java/lang/Object")] 113

def k0m0 : Method := { name := "<init>", desc := "()V", sig := { parameters := [], returnType := none }, accessFlags := 1, code := none }
/-- java/lang/Object -/
def k0 : Class := { plain "java/lang/Object" none with
  accessFlags := 33
  interfaces := #[]
  cf := some (fileOf pool0 8 #[] #[{ accessFlags := 1, nameIndex := 5, descriptorIndex := 6, attributes := #[] }] 33 0 #[] #[])
  fields := #[]
  methods := #[k0m0]
  instanceTypes := #[]
  staticTypes := #[]
  resolved := Array.replicate 124 none
  statics := none }

def pool1 : Array CpInfo := pool [(2, .class_ 4), (1, u "java/lang/Object"), (0, u "<init>"), (0, u "()V"), (0, .integer 2147483647), (0, .fieldref 9 10), (0, .class_ 11), (0, .nameAndType 12 13), (0, u site_98.cls), (0, u "XFX"), (0, u DD), (0, .fieldref 9 15), (0, .nameAndType 16 13), (0, u "XFY"), (0, .fieldref 9 18), (0, .nameAndType 19 13), (0, u "YFX"), (0, .fieldref 9 21), (0, .nameAndType 22 13), (0, u "FX"), (0, .fieldref 9 24), (0, .nameAndType 25 13), (0, u "FY"), (0, .fieldref 9 27), (0, .nameAndType 28 13), (0, u "XF"), (0, .fieldref 9 30), (0, .nameAndType 31 13), (0, u "YF"), (0, .methodref 9 33), (0, .nameAndType 34 35), (0, u "isInfix"), (0, u "()Z"), (0, .class_ 37), (0, u x.cls), (2, u "law"), (0, u "(I)Z")] 3

def k1m0 : Method := { name := "<init>", desc := "()V", sig := { parameters := [], returnType := none }, accessFlags := 1, code := none }
def k1c1 : Code := { maxStack := 2, maxLocals := 4, code := code, exceptionTable := #[], attributes := #[] }
def k1m1 : Method := { name := "law", desc := "(I)Z", sig := { parameters := [.int], returnType := some .boolean }, accessFlags := 9, code := some k1c1 }
def k1 : Class := { plain x.cls (some 0) with
  accessFlags := 49
  interfaces := #[]
  cf := some (fileOf pool1 36 #[] #[{ accessFlags := 1, nameIndex := 5, descriptorIndex := 6, attributes := #[] }, { accessFlags := 9, nameIndex := 40, descriptorIndex := 41, attributes := #[] }] 49 2 #[] #[])
  fields := #[]
  methods := #[k1m0, k1m1]
  instanceTypes := #[]
  staticTypes := #[]
  resolved := Array.replicate 45 none
  statics := none }

def pool2 : Array CpInfo := pool [(1, .class_ 2), (0, u "java/lang/constant/Constable"), (0, .class_ 4), (0, u "java/lang/Object")] 6

/-- java/lang/constant/Constable -/
def k2 : Class := { plain "java/lang/constant/Constable" (some 0) with
  accessFlags := 1537
  interfaces := #[]
  cf := some (fileOf pool2 1 #[] #[] 1537 3 #[] #[])
  fields := #[]
  methods := #[]
  instanceTypes := #[]
  staticTypes := #[]
  resolved := Array.replicate 11 none
  statics := none }

def pool3 : Array CpInfo := pool [(1, .class_ 2), (0, u "java/lang/Comparable"), (0, .class_ 4), (0, u "java/lang/Object")] 7

/-- java/lang/Comparable -/
def k3 : Class := { plain "java/lang/Comparable" (some 0) with
  accessFlags := 1537
  interfaces := #[]
  cf := some (fileOf pool3 1 #[] #[] 1537 3 #[] #[])
  fields := #[]
  methods := #[]
  instanceTypes := #[]
  staticTypes := #[]
  resolved := Array.replicate 12 none
  statics := none }

def pool4 : Array CpInfo := pool [(1, .class_ 2), (0, u "java/io/Serializable"), (0, .class_ 4), (0, u "java/lang/Object")] 2

/-- java/io/Serializable -/
def k4 : Class := { plain "java/io/Serializable" (some 0) with
  accessFlags := 1537
  interfaces := #[]
  cf := some (fileOf pool4 1 #[] #[] 1537 3 #[] #[])
  fields := #[]
  methods := #[]
  instanceTypes := #[]
  staticTypes := #[]
  resolved := Array.replicate 7 none
  statics := none }

def pool5 : Array CpInfo := pool [(2, .class_ 4), (1, u "java/lang/Enum"), (0, u "name"), (0, u "Ljava/lang/String;"), (2, u "ordinal"), (0, u "I"), (1, .class_ 14), (1, u "java/lang/Object"), (4, u "hash"), (86, .class_ 108), (1, u "java/lang/Enum$EnumDesc"), (2, .class_ 112), (0, u "java/lang/constant/Constable"), (0, .class_ 114), (0, u "java/lang/Comparable"), (0, .class_ 116), (0, u "java/io/Serializable")] 87

/-- java/lang/Enum -/
def k5 : Class := { plain "java/lang/Enum" (some 0) with
  accessFlags := 1057
  interfaces := #[2, 3, 4]
  cf := some (fileOf pool5 2 #[.nestMembers #[106]] #[] 1057 12 #[111, 113, 115] #[{ accessFlags := 18, nameIndex := 5, descriptorIndex := 6, attributes := #[] }, { accessFlags := 18, nameIndex := 9, descriptorIndex := 10, attributes := #[] }, { accessFlags := 2, nameIndex := 19, descriptorIndex := 10, attributes := #[] }])
  fields := #[{ name := "name", type := (.object "java/lang/String"), accessFlags := 18, slot := 0, constantValue := 0 }, { name := "ordinal", type := .int, accessFlags := 18, slot := 1, constantValue := 0 }, { name := "hash", type := .int, accessFlags := 2, slot := 2, constantValue := 0 }]
  methods := #[]
  instanceTypes := #[(.object "java/lang/String"), .int, .int]
  staticTypes := #[]
  resolved := Array.replicate 204 none
  statics := none }

def pool6 : Array CpInfo := pool [(1, .class_ 2), (0, u site_98.cls), (0, .fieldref 1 4), (0, .nameAndType 5 6), (0, u "XFX"), (0, u DD), (0, .fieldref 1 8), (0, .nameAndType 9 6), (0, u "XFY"), (0, .fieldref 1 11), (0, .nameAndType 12 6), (0, u "YFX"), (2, u "FX"), (2, u "FY"), (2, u "XF"), (2, u "YF"), (2, u "$VALUES"), (0, u ("[" ++ DD)), (6, .class_ 37), (1, u "java/lang/Enum"), (50, u "()Z"), (0, u "isInfix")] 7

def k6c0 : Code := { maxStack := 2, maxLocals := 1, code := prog_101_method_6_code, exceptionTable := #[], attributes := #[] }
def k6m0 : Method := { name := "isInfix", desc := "()Z", sig := { parameters := [], returnType := some .boolean }, accessFlags := 1, code := some k6c0 }
def k6 : Class := { plain site_98.cls (some 5) with
  accessFlags := 16433
  interfaces := #[]
  cf := some (fileOf pool6 1 #[] #[{ accessFlags := 1, nameIndex := 89, descriptorIndex := 88, attributes := #[] }] 16433 35 #[] #[{ accessFlags := 16409, nameIndex := 5, descriptorIndex := 6, attributes := #[] }, { accessFlags := 16409, nameIndex := 9, descriptorIndex := 6, attributes := #[] }, { accessFlags := 16409, nameIndex := 12, descriptorIndex := 6, attributes := #[] }, { accessFlags := 16409, nameIndex := 15, descriptorIndex := 6, attributes := #[] }, { accessFlags := 16409, nameIndex := 18, descriptorIndex := 6, attributes := #[] }, { accessFlags := 16409, nameIndex := 21, descriptorIndex := 6, attributes := #[] }, { accessFlags := 16409, nameIndex := 24, descriptorIndex := 6, attributes := #[] }, { accessFlags := 4122, nameIndex := 27, descriptorIndex := 28, attributes := #[] }])
  fields := #[{ name := "XFX", type := (.object site_98.cls), accessFlags := 16409, slot := 0, constantValue := 0 }, { name := "XFY", type := (.object site_98.cls), accessFlags := 16409, slot := 1, constantValue := 0 }, { name := "YFX", type := (.object site_98.cls), accessFlags := 16409, slot := 2, constantValue := 0 }, { name := "FX", type := (.object site_98.cls), accessFlags := 16409, slot := 3, constantValue := 0 }, { name := "FY", type := (.object site_98.cls), accessFlags := 16409, slot := 4, constantValue := 0 }, { name := "XF", type := (.object site_98.cls), accessFlags := 16409, slot := 5, constantValue := 0 }, { name := "YF", type := (.object site_98.cls), accessFlags := 16409, slot := 6, constantValue := 0 }, { name := "$VALUES", type := (.array (.object site_98.cls)), accessFlags := 4122, slot := 7, constantValue := 0 }]
  methods := #[k6m0]
  instanceTypes := #[(.object "java/lang/String"), .int, .int]
  staticTypes := #[(.object site_98.cls), (.object site_98.cls), (.object site_98.cls), (.object site_98.cls), (.object site_98.cls), (.object site_98.cls), (.object site_98.cls), (.array (.object site_98.cls))]
  resolved := Array.replicate 97 none
  statics := some 0 }

def pool7 : Array CpInfo := pool [(1, u "java/lang/Cloneable"), (0, .class_ 1), (0, u "java/lang/Object"), (0, .class_ 3)] 3

/-- java/lang/Cloneable -/
def k7 : Class := { plain "java/lang/Cloneable" (some 0) with
  accessFlags := 1537
  interfaces := #[]
  cf := some (fileOf pool7 2 #[] #[] 1537 4 #[] #[])
  fields := #[]
  methods := #[]
  instanceTypes := #[]
  staticTypes := #[]
  resolved := Array.replicate 8 none
  statics := none }

/-- the primitive byte -/
def k8 : Class := { plain "byte" none with kind := .primitive 'B', accessFlags := 0x411 }
/-- [B -/
def k9 : Class := { plain "[B" (some 0) with kind := .array 8 .byte, interfaces := #[7, 4], accessFlags := 1041 }

/-- the primitive int -/
def k10 : Class := { plain "int" none with kind := .primitive 'I', accessFlags := 0x411 }
/-- [I -/
def k11 : Class := { plain "[I" (some 0) with kind := .array 10 .int, interfaces := #[7, 4], accessFlags := 1041 }

def heap : Heap := #[{ cls := 6, slots := #[.ref 1, .ref 2, .ref 3, .ref 4, .ref 5, .ref 6, .ref 7, .null], vm := .statics 6 },
  { cls := 6, slots := #[.null, .int 0, .int 0], vm := .none },
  { cls := 6, slots := #[.null, .int 1, .int 0], vm := .none },
  { cls := 6, slots := #[.null, .int 2, .int 0], vm := .none },
  { cls := 6, slots := #[.null, .int 3, .int 0], vm := .none },
  { cls := 6, slots := #[.null, .int 4, .int 0], vm := .none },
  { cls := 6, slots := #[.null, .int 5, .int 0], vm := .none },
  { cls := 6, slots := #[.null, .int 6, .int 0], vm := .none }]
def classes : Array Class := #[k0, k1, k2, k3, k4, k5, k6, k7, k8, k9, k10, k11]
def interned : List (Array UInt16 × Addr) := []
def slotsUsed : Nat := 29
def theMethod : MethodId := ⟨1, 1⟩
def args0 : Array Value := #[.int 5]
def aboutOver (below : List Frame) : State where
  vm := { classes := classes, interned := interned.toArray }
  heap := heap
  slotsUsed := slotsUsed
  threads := #[{ frames := .invoking theMethod args0 :: below }]
def below0 : List Frame := [.native { method := ⟨0, 0⟩, args := #[] }]
def about1 : State := aboutOver below0
def p0 : Program := .bare "" "" ""
def e0 : Env := launch0.env 0 0 0
theorem w_frames : about1.frames = Frame.invoking theMethod args0 :: below0 := rfl
set_option maxRecDepth 65536 in
theorem w_args : argsFit about1.vm theMethod args0 = true := by decide +kernel
set_option maxRecDepth 65536 in
theorem w_heap : heapFits about1 = true := by decide +kernel
set_option maxRecDepth 65536 in
theorem w_runnable : about1.curStatus? = some .runnable := by decide +kernel
set_option maxRecDepth 65536 in
theorem w_alone : about1.alone = true := by decide +kernel
set_option maxRecDepth 65536 in
theorem w_named : about1.methodNamed? x = some theMethod := by decide +kernel
set_option maxRecDepth 65536 in
theorem w_hears : about1.hears theMethod below0 = true := by decide +kernel
set_option maxRecDepth 65536 in
theorem w_ripe : about1.ripe theMethod args0 below0 = true := by decide +kernel
theorem w_running : about1.status = .running := rfl
set_option maxRecDepth 65536 in
theorem w_room : about1.hasRoom e0.platform room_1 = true :=
  launch0.hasRoom_least _ room_1 (by decide +kernel) (by decide +kernel) (by decide +kernel) (by decide +kernel) (by decide +kernel) (by decide +kernel)
theorem allAtoms_all (ts : List Jvm.Cond) (a : Array Jvm.Value) (st : Jvm.State) : (allAtoms ts).before a st = ts.all (fun c => c.before a st) := by
  induction ts with
  | nil => rfl
  | cons c t ih =>
    show (Jvm.Cond.and c (allAtoms t)).before a st = _
    rw [Jvm.Cond.before_and, ih, List.all_cons]
def words1 : List Jvm.Cond := Jvm.Cond.code x code maxLocals ret :: tables_1
/-- a 'code' word, met by the world's own term for the bytes: nothing is compared byte by byte -/
theorem code_word {y : MethodName} {bytes : ByteArray} {mx : Nat} {rt : Option FieldType} {a : Array Value} {s : State} {m : MethodId} {meth : Method} {c : Code} (h1 : s.methodNamed? y = some m) (h2 : s.vm.method? m = some meth) (h3 : meth.code = some c) (h4 : c.code = bytes)
    (h5 : (c.maxLocals == mx && c.exceptionTable.isEmpty && decide (c.maxStack ≤ mostOperands) && decide (meth.sig.returnType = rt) && !meth.locks && decide (parseMethodDescriptor y.desc = some meth.sig)) = true) : (Jvm.Cond.code y bytes mx rt).before a s = true := by
  simp only [Bool.and_eq_true, beq_iff_eq, Bool.not_eq_true', decide_eq_true_eq] at h5
  obtain ⟨⟨⟨⟨⟨g1, g2⟩, g3⟩, g4⟩, g5⟩, g6⟩ := h5
  simp [Cond.before, Cond.holds, Cond.value, h1, h2, h3, h4, g1, g2, g3, g4, g5, g6]
def isCode : Jvm.Cond → Bool
  | .code _ _ _ _ => true
  | _ => false
theorem all_split {L : List Jvm.Cond} {P : Jvm.Cond → Bool} (h1 : L.all (fun c => isCode c || P c) = true) (h2 : ∀ c ∈ L.filter isCode, P c = true) : L.all P = true := by
  refine List.all_eq_true.mpr fun c hc => ?_
  have h := List.all_eq_true.mp h1 c hc
  rcases Bool.eq_false_or_eq_true (isCode c) with hi | hi
  · exact h2 c (List.mem_filter.mpr ⟨hc, hi⟩)
  · simpa [hi] using h
set_option maxRecDepth 65536 in
theorem w_c0 : (Jvm.Cond.code x code maxLocals ret).before args0 about1 = true := code_word (m := ⟨1, 1⟩) (meth := k1m1) (c := k1c1) (by decide +kernel) rfl rfl rfl (by decide +kernel)
set_option maxRecDepth 65536 in
theorem w_c1 : (Jvm.Cond.code ({ cls := site_98.cls, name := "isInfix", desc := "()Z" } : Jvm.MethodName) prog_101_method_6_code (1 : Nat) (Option.some Jvm.ClassFile.FieldType.boolean)).before args0 about1 = true := code_word (m := ⟨6, 0⟩) (meth := k6m0) (c := k6c0) (by decide +kernel) rfl rfl rfl (by decide +kernel)
def codes1 : List Jvm.Cond := [Jvm.Cond.code x code maxLocals ret, Jvm.Cond.code ({ cls := site_98.cls, name := "isInfix", desc := "()Z" } : Jvm.MethodName) prog_101_method_6_code (1 : Nat) (Option.some Jvm.ClassFile.FieldType.boolean)]
set_option maxRecDepth 65536 in
theorem codes_eq : words1.filter isCode = codes1 := rfl
theorem w_codes : ∀ c ∈ words1.filter isCode, c.before args0 about1 = true := by
  rw [codes_eq]
  intro c hc
  simp only [codes1, List.mem_cons, List.not_mem_nil, or_false] at hc
  rcases hc with rfl | rfl
  · exact w_c0
  · exact w_c1
set_option maxRecDepth 65536 in
theorem w_t1 : (words1.take 24).all (fun c => isCode c || c.before args0 about1) = true := by decide +kernel
set_option maxRecDepth 65536 in
theorem w_t2 : (words1.drop 24).all (fun c => isCode c || c.before args0 about1) = true := by decide +kernel
theorem w_tables : (allAtoms (Jvm.Cond.code x code maxLocals ret :: tables_1)).before args0 about1 = true := by
  rw [allAtoms_all]
  show words1.all (fun c => c.before args0 about1) = true
  refine all_split ?_ w_codes
  rw [← List.take_append_drop 24 words1, List.all_append, w_t1, w_t2]
  rfl
set_option maxRecDepth 65536 in
theorem w_case : (Jvm.Cond.and given_1 narrow_1).before args0 about1 = true := by decide +kernel
theorem w_applies : (headSpec (Jvm.Cond.code x code maxLocals ret :: tables_1) room_1).applies x e0.platform about1 = true :=
  (Spec.applies_iff w_frames).mpr ⟨w_running, w_runnable, w_alone, w_named, w_hears, w_ripe, w_room, w_tables⟩
theorem atStart : AtStart classFile x code maxLocals ret World_1 tables_1 room_1 Calls_1 rest_1 Pre_1 launch0 p0 e0 about1 theMethod args0 below0 :=
  ⟨lists_1, trivial, launch0.admits_env _ _ _, launch0.least_env, fairChoices_fair.cas, fairChoices_fair.clock, w_frames, w_args, w_heap, w_applies, trivial, trivial, w_case⟩
end start1
theorem witness_1 : WitnessClaimed_1 := ⟨start1.p0, start1.e0, start1.about1, start1.theMethod, start1.args0, start1.below0, start1.atStart⟩
end Jvm.Pilot.@@N@@
