import JvmDerived
import JvmDerived.Pilot.@@N@@Statement
import JvmDerived.Pilot.@@N@@Code
set_option linter.unusedVariables false
set_option linter.unusedSimpArgs false
namespace Jvm.RoadKit
open Sem ClassFile Op Lib Jvm.Stand Jvm.Free Jvm.LawKit
section New
variable {p : Program} {l : Launch} {e : Env} {R : Room} {s : State} {m : MethodId} {args : Array Value} {below : List Frame} {meth : Method} {c : Code} {T : State} {locs : List Loc} {cells slots : Nat}
theorem retI (X : Stand p l e R s m args below meth c T locs cells slots) (hx : p.tables.exec = Jvm.exec) {pc : Nat} {Ls : Array Slot} {z : Int32} {rest : List Value} (hret : meth.sig.returnType = some .int) (hd : decode c.code pc = .ok (.ireturn, 1)) {fs : List Frame}
    (hl : ∀ (f : JFrame) (acts : List Action), f.method = m → f.locked = none → f.entered = [] → (doReturn e (T.setTop f) acts (some (.int z))).1 = T.setFrames fs) : Steps p.tables e below (T.setTop (mkF m pc Ls (.int z :: rest))) (T.setFrames fs) := by
  have hm' : T.vm.method? m = some meth := X.method'
  have hn : narrow .int (.int z) = .int z := rfl
  show Steps p.tables e below (T.setTop { method := m, pc := pc, locals := Ls, stack := _ :: rest, locked := none }) _
  jvm_step X.here [X.here.top, hx, hd, hm', hret, hn]
  first | (intro acts; rw [hl _ acts rfl rfl rfl]) | rw [hl _ _ rfl rfl rfl]
  exact Steps.refl _
end New
end Jvm.RoadKit
namespace Jvm.Pilot.@@N@@
open Jvm Jvm.ClassFile Sem Op Lib Jvm.Free Jvm.Stand Jvm.LawKit Jvm.RoadKit Bundle Jvm.Pilot.@@N@@.Jvm.D
def pickV (a b : Int32) : Int32 :=
  if (((b.toUInt32 >>> ((1 : Int32) &&& 31).toUInt32).toInt32) &&& (7 : Int32)) = (0 : Int32) then (13 : Int32)
  else if (((b.toUInt32 >>> ((1 : Int32) &&& 31).toUInt32).toInt32) &&& (7 : Int32)) = (1 : Int32) then (10 : Int32)
  else if (((b.toUInt32 >>> ((1 : Int32) &&& 31).toUInt32).toInt32) &&& (7 : Int32)) = (2 : Int32) then (133 : Int32)
  else if (((b.toUInt32 >>> ((1 : Int32) &&& 31).toUInt32).toInt32) &&& (7 : Int32)) = (3 : Int32) then (8232 : Int32)
  else if (((b.toUInt32 >>> ((1 : Int32) &&& 31).toUInt32).toInt32) &&& (7 : Int32)) = (4 : Int32) then (8233 : Int32)
  else (a &&& (65535 : Int32))
def endsV (c z : Int32) : Int32 :=
  if c = (13 : Int32) then 1 else if c = (10 : Int32) then 1 else if z = (0 : Int32) then 0 else if c = (133 : Int32) then 1 else if c = (8232 : Int32) then 1 else 0
theorem own_and_c (a : Int32) : (a &&& (65535 : Int32)).toUInt32.toUInt16.toUInt32.toInt32 = (a &&& (65535 : Int32)) := by
  have h : (a &&& 65535).toBitVec.toNat ≤ 65535 := by
    simp only [Int32.toBitVec_and, BitVec.toNat_and]
    exact Nat.and_le_right
  apply Int32.toBitVec_inj.mp
  apply BitVec.eq_of_toNat_eq
  generalize (a &&& 65535) = w at h ⊢
  have e : w.toUInt32.toUInt16.toUInt32.toInt32.toBitVec.toNat = w.toBitVec.toNat % 65536 := rfl
  rw [e, Nat.mod_eq_of_lt (by omega)]
theorem own_pick_c (a b : Int32) : (pickV a b).toUInt32.toUInt16.toUInt32.toInt32 = pickV a b := by
  unfold pickV
  repeat' split
  all_goals first | rfl | exact own_and_c a
theorem d1_0 : decode method_2_code 0 = .ok (.iload_n 1, 1) := by decide +kernel
theorem d1_1 : decode method_2_code 1 = .ok (.iconst 1, 1) := by decide +kernel
theorem d1_2 : decode method_2_code 2 = .ok (.iushr, 1) := by decide +kernel
theorem d1_3 : decode method_2_code 3 = .ok (.bipush 7, 2) := by decide +kernel
theorem d1_5 : decode method_2_code 5 = .ok (.iand, 1) := by decide +kernel
theorem d1_6 : decode method_2_code 6 = .ok (.istore_n 2, 1) := by decide +kernel
theorem d1_7 : decode method_2_code 7 = .ok (.iload_n 2, 1) := by decide +kernel
theorem d1_8 : decode method_2_code 8 = .ok (.ifCond .ne 6, 3) := by decide +kernel
theorem d1_11 : decode method_2_code 11 = .ok (.bipush 13, 2) := by decide +kernel
theorem d1_13 : decode method_2_code 13 = .ok (.ireturn, 1) := by decide +kernel
theorem d1_14 : decode method_2_code 14 = .ok (.iload_n 2, 1) := by decide +kernel
theorem d1_15 : decode method_2_code 15 = .ok (.iconst 1, 1) := by decide +kernel
theorem d1_16 : decode method_2_code 16 = .ok (.if_icmp .ne 6, 3) := by decide +kernel
theorem d1_19 : decode method_2_code 19 = .ok (.bipush 10, 2) := by decide +kernel
theorem d1_21 : decode method_2_code 21 = .ok (.ireturn, 1) := by decide +kernel
theorem d1_22 : decode method_2_code 22 = .ok (.iload_n 2, 1) := by decide +kernel
theorem d1_23 : decode method_2_code 23 = .ok (.iconst 2, 1) := by decide +kernel
theorem d1_24 : decode method_2_code 24 = .ok (.if_icmp .ne 7, 3) := by decide +kernel
theorem d1_27 : decode method_2_code 27 = .ok (.sipush 133, 3) := by decide +kernel
theorem d1_30 : decode method_2_code 30 = .ok (.ireturn, 1) := by decide +kernel
theorem d1_31 : decode method_2_code 31 = .ok (.iload_n 2, 1) := by decide +kernel
theorem d1_32 : decode method_2_code 32 = .ok (.iconst 3, 1) := by decide +kernel
theorem d1_33 : decode method_2_code 33 = .ok (.if_icmp .ne 7, 3) := by decide +kernel
theorem d1_36 : decode method_2_code 36 = .ok (.sipush 8232, 3) := by decide +kernel
theorem d1_39 : decode method_2_code 39 = .ok (.ireturn, 1) := by decide +kernel
theorem d1_40 : decode method_2_code 40 = .ok (.iload_n 2, 1) := by decide +kernel
theorem d1_41 : decode method_2_code 41 = .ok (.iconst 4, 1) := by decide +kernel
theorem d1_42 : decode method_2_code 42 = .ok (.if_icmp .ne 7, 3) := by decide +kernel
theorem d1_45 : decode method_2_code 45 = .ok (.sipush 8233, 3) := by decide +kernel
theorem d1_48 : decode method_2_code 48 = .ok (.ireturn, 1) := by decide +kernel
theorem d1_49 : decode method_2_code 49 = .ok (.iload_n 0, 1) := by decide +kernel
theorem d1_50 : decode method_2_code 50 = .ok (.ldc 7, 2) := by decide +kernel
theorem d1_52 : decode method_2_code 52 = .ok (.iand, 1) := by decide +kernel
theorem d1_53 : decode method_2_code 53 = .ok (.ireturn, 1) := by decide +kernel
theorem pn_0 : plainName "com/example/inked_rows/inkedrows/xml/LinesEndsLinePinLaw" = true := by first | (simp [plainName, overriddenIn]; done) | decide +kernel
theorem ef_1 (m : MethodId) (p0 : Int32) (p1 : Int32) : entryFrame m #[(.int p0), (.int p1)] 3 = mkF m 0 #[.val (.int p0), .val (.int p1), .unset] [] := by first | (simp [entryFrame, mkF, argsToLocals, Value.category]; done) | rfl
def Q1 (p0 p1 : Int32) (h0 : Heap) (n0 : Nat) (v : Option Value) (h : Heap) (L : List Loc) : Prop := v = some (.int (pickV p0 p1)) ∧ Fr n0 L ∧ h = h0
set_option maxRecDepth 65536 in
set_option maxHeartbeats 40000000 in
theorem rm1 (l : Launch) (Z : State) (a0 : Array Value) (hw : ∀ d ∈ tables_1, d.before a0 Z = true) (ws : List Jvm.Cond) (p0 p1 : Int32) (h0 : Heap) (n0 : Nat) (Z0 : n0 ≤ h0.size)  :
    MetFree l (⟨"com/example/inked_rows/inkedrows/xml/LinesEndsLinePinLaw", "pick", "(II)I"⟩ : MethodName) (head1 (Jvm.Cond.code (⟨"com/example/inked_rows/inkedrows/xml/LinesEndsLinePinLaw", "pick", "(II)I"⟩ : MethodName) method_2_code 3 (some .int) :: ws) ({ frames := 0, cells := 0, slots := 0, locals := 0 } : Room)) (fun a U => a = #[(.int p0), (.int p1)] ∧ Z.Warmed39 U.vm ∧ U.heap = h0) (fun _ _ _ _ _ => True) (fun _ U o U' => ∃ v L, o = .returned v ∧ Q1 p0 p1 h0 n0 v U'.heap L ∧ FrameEnd U o U' L ({ frames := 0, cells := 0, slots := 0, locals := 0 } : Room).cells ({ frames := 0, cells := 0, slots := 0, locals := 0 } : Room).slots) := by
  refine MetFree.of_bodySF (plainFor_of_name pn_0) hisR ?_
  intro p e s m args below meth c s₁ Bd hml0 hP hK
  obtain ⟨rfl, hZ, hh⟩ := hP
  have hx := Bd.exec
  have hby := Bd.bytes
  have hml : c.maxLocals = 3 := hml0
  have hown : s.vm.findClass "com/example/inked_rows/inkedrows/xml/LinesEndsLinePinLaw" = some m.cls := findClass_of_methodNamed Bd.named
  have hnm := (name_of_methodNamed Bd.named Bd.method).1
  have X0 : Stand p l e ({ frames := 0, cells := 0, slots := 0, locals := 0 } : Room) s m #[(.int p0), (.int p1)] below meth c s₁ [] 0 0 := Stand.of_body Bd
  have e0 : s₁.heap = h0 := by rw [← hh, Bd.state]; rfl
  have N0 := Fr.nil n0
  have pre0 : ∀ t, Steps p.tables e below (s₁.setTop (mkF m 0 #[.val (.int p0), .val (.int p1), .unset] [])) t → Steps p.tables e below (s₁.setTop (entryFrame m #[(.int p0), (.int p1)] 3)) t := fun t k => castTop (ef_1 m p0 p1) k
  have pre1 : ∀ t, Steps p.tables e below (s₁.setTop (mkF m 8 #[.val (.int p0), .val (.int p1), .val (.int (((p1.toUInt32 >>> ((1 : Int32) &&& 31).toUInt32).toInt32) &&& (7 : Int32)))] [(.int (((p1.toUInt32 >>> ((1 : Int32) &&& 31).toUInt32).toInt32) &&& (7 : Int32)))])) t → Steps p.tables e below (s₁.setTop (entryFrame m #[(.int p0), (.int p1)] 3)) t := fun t kt => pre0 t (by
      show Steps p.tables e below (s₁.setTop (mkF m 0 #[.val (.int p0), .val (.int p1), .unset] [])) _
      refine XS.iloadN X0.here hx rfl (hb hby d1_0) rfl ?_
      show Steps p.tables e below (s₁.setTop (mkF m 1 #[.val (.int p0), .val (.int p1), .unset] [(.int p1)])) _
      refine XS.iconst X0.here hx rfl (hb hby d1_1) ?_
      show Steps p.tables e below (s₁.setTop (mkF m 2 #[.val (.int p0), .val (.int p1), .unset] [(.int (1 : Int32)), (.int p1)])) _
      refine XS.iushr X0.here hx rfl (hb hby d1_2) rfl ?_
      show Steps p.tables e below (s₁.setTop (mkF m 3 #[.val (.int p0), .val (.int p1), .unset] [(.int ((p1.toUInt32 >>> ((1 : Int32) &&& 31).toUInt32).toInt32))])) _
      refine XS.bipush X0.here hx rfl (hb hby d1_3) ?_
      show Steps p.tables e below (s₁.setTop (mkF m 5 #[.val (.int p0), .val (.int p1), .unset] [(.int (7 : Int32)), (.int ((p1.toUInt32 >>> ((1 : Int32) &&& 31).toUInt32).toInt32))])) _
      refine XS.iand X0.here hx rfl (hb hby d1_5) rfl ?_
      show Steps p.tables e below (s₁.setTop (mkF m 6 #[.val (.int p0), .val (.int p1), .unset] [(.int (((p1.toUInt32 >>> ((1 : Int32) &&& 31).toUInt32).toInt32) &&& (7 : Int32)))])) _
      refine XS.istoreN X0.here hx rfl (hb hby d1_6) rfl (l' := #[.val (.int p0), .val (.int p1), .val (.int (((p1.toUInt32 >>> ((1 : Int32) &&& 31).toUInt32).toInt32) &&& (7 : Int32)))]) rfl ?_
      show Steps p.tables e below (s₁.setTop (mkF m 7 #[.val (.int p0), .val (.int p1), .val (.int (((p1.toUInt32 >>> ((1 : Int32) &&& 31).toUInt32).toInt32) &&& (7 : Int32)))] [])) _
      refine XS.iloadN X0.here hx rfl (hb hby d1_7) rfl ?_
      exact kt)
  by_cases hc8 : (((p1.toUInt32 >>> ((1 : Int32) &&& 31).toUInt32).toInt32) &&& (7 : Int32)) = (0 : Int32)
  · obtain ⟨fs, hr, hrun, hended, hW, hsame⟩ := X0.leave (v := some (.int (13 : Int32))) (fun h => by rw [Bd.returns] at h; cases h)
    refine ⟨_, _, pre1 _ ?_, hrun, hended, _, _, rfl, ?_, ⟨_, rfl⟩, hW, hsame.mono (by decide) (by decide)⟩
    · show Steps p.tables e below (s₁.setTop (mkF m 8 #[.val (.int p0), .val (.int p1), .val (.int (((p1.toUInt32 >>> ((1 : Int32) &&& 31).toUInt32).toInt32) &&& (7 : Int32)))] [(.int (((p1.toUInt32 >>> ((1 : Int32) &&& 31).toUInt32).toInt32) &&& (7 : Int32)))])) _
      refine XS.ifNo X0.here hx rfl (hb hby d1_8) rfl ((if0 _ _).trans (teq (show (((p1.toUInt32 >>> ((1 : Int32) &&& 31).toUInt32).toInt32) &&& (7 : Int32)) = (0 : Int32) from hc8)).2) ?_
      show Steps p.tables e below (s₁.setTop (mkF m 11 #[.val (.int p0), .val (.int p1), .val (.int (((p1.toUInt32 >>> ((1 : Int32) &&& 31).toUInt32).toInt32) &&& (7 : Int32)))] [])) _
      refine XS.bipush X0.here hx rfl (hb hby d1_11) ?_
      show Steps p.tables e below (s₁.setTop (mkF m 13 #[.val (.int p0), .val (.int p1), .val (.int (((p1.toUInt32 >>> ((1 : Int32) &&& 31).toUInt32).toInt32) &&& (7 : Int32)))] [(.int (13 : Int32))])) _
      exact retI X0 hx Bd.returns (hb hby d1_13) hr
    · show Q1 p0 p1 h0 n0 _ s₁.heap _
      rw [e0]
      exact ⟨(by rw [pickV, if_pos hc8]), N0, rfl⟩
  · have pre2 : ∀ t, Steps p.tables e below (s₁.setTop (mkF m 16 #[.val (.int p0), .val (.int p1), .val (.int (((p1.toUInt32 >>> ((1 : Int32) &&& 31).toUInt32).toInt32) &&& (7 : Int32)))] [(.int (1 : Int32)), (.int (((p1.toUInt32 >>> ((1 : Int32) &&& 31).toUInt32).toInt32) &&& (7 : Int32)))])) t → Steps p.tables e below (s₁.setTop (entryFrame m #[(.int p0), (.int p1)] 3)) t := fun t kt => pre1 t (by
        show Steps p.tables e below (s₁.setTop (mkF m 8 #[.val (.int p0), .val (.int p1), .val (.int (((p1.toUInt32 >>> ((1 : Int32) &&& 31).toUInt32).toInt32) &&& (7 : Int32)))] [(.int (((p1.toUInt32 >>> ((1 : Int32) &&& 31).toUInt32).toInt32) &&& (7 : Int32)))])) _
        refine XS.ifYes X0.here hx rfl (pc0 := 8) (pc' := 14) rfl (hb hby d1_8) rfl ((if0 _ _).trans (feq (show ¬ ((((p1.toUInt32 >>> ((1 : Int32) &&& 31).toUInt32).toInt32) &&& (7 : Int32)) = (0 : Int32)) from hc8)).2) (by decide) (by decide) ?_
        show Steps p.tables e below (s₁.setTop (mkF m 14 #[.val (.int p0), .val (.int p1), .val (.int (((p1.toUInt32 >>> ((1 : Int32) &&& 31).toUInt32).toInt32) &&& (7 : Int32)))] [])) _
        refine XS.iloadN X0.here hx rfl (hb hby d1_14) rfl ?_
        show Steps p.tables e below (s₁.setTop (mkF m 15 #[.val (.int p0), .val (.int p1), .val (.int (((p1.toUInt32 >>> ((1 : Int32) &&& 31).toUInt32).toInt32) &&& (7 : Int32)))] [(.int (((p1.toUInt32 >>> ((1 : Int32) &&& 31).toUInt32).toInt32) &&& (7 : Int32)))])) _
        refine XS.iconst X0.here hx rfl (hb hby d1_15) ?_
        exact kt)
    by_cases hc16 : (((p1.toUInt32 >>> ((1 : Int32) &&& 31).toUInt32).toInt32) &&& (7 : Int32)) = (1 : Int32)
    · obtain ⟨fs, hr, hrun, hended, hW, hsame⟩ := X0.leave (v := some (.int (10 : Int32))) (fun h => by rw [Bd.returns] at h; cases h)
      refine ⟨_, _, pre2 _ ?_, hrun, hended, _, _, rfl, ?_, ⟨_, rfl⟩, hW, hsame.mono (by decide) (by decide)⟩
      · show Steps p.tables e below (s₁.setTop (mkF m 16 #[.val (.int p0), .val (.int p1), .val (.int (((p1.toUInt32 >>> ((1 : Int32) &&& 31).toUInt32).toInt32) &&& (7 : Int32)))] [(.int (1 : Int32)), (.int (((p1.toUInt32 >>> ((1 : Int32) &&& 31).toUInt32).toInt32) &&& (7 : Int32)))])) _
        refine XS.icmpNo X0.here hx rfl (hb hby d1_16) rfl (teq (show (((p1.toUInt32 >>> ((1 : Int32) &&& 31).toUInt32).toInt32) &&& (7 : Int32)) = (1 : Int32) from hc16)).2 ?_
        show Steps p.tables e below (s₁.setTop (mkF m 19 #[.val (.int p0), .val (.int p1), .val (.int (((p1.toUInt32 >>> ((1 : Int32) &&& 31).toUInt32).toInt32) &&& (7 : Int32)))] [])) _
        refine XS.bipush X0.here hx rfl (hb hby d1_19) ?_
        show Steps p.tables e below (s₁.setTop (mkF m 21 #[.val (.int p0), .val (.int p1), .val (.int (((p1.toUInt32 >>> ((1 : Int32) &&& 31).toUInt32).toInt32) &&& (7 : Int32)))] [(.int (10 : Int32))])) _
        exact retI X0 hx Bd.returns (hb hby d1_21) hr
      · show Q1 p0 p1 h0 n0 _ s₁.heap _
        rw [e0]
        exact ⟨(by rw [pickV, if_neg hc8, if_pos hc16]), N0, rfl⟩
    · have pre3 : ∀ t, Steps p.tables e below (s₁.setTop (mkF m 24 #[.val (.int p0), .val (.int p1), .val (.int (((p1.toUInt32 >>> ((1 : Int32) &&& 31).toUInt32).toInt32) &&& (7 : Int32)))] [(.int (2 : Int32)), (.int (((p1.toUInt32 >>> ((1 : Int32) &&& 31).toUInt32).toInt32) &&& (7 : Int32)))])) t → Steps p.tables e below (s₁.setTop (entryFrame m #[(.int p0), (.int p1)] 3)) t := fun t kt => pre2 t (by
          show Steps p.tables e below (s₁.setTop (mkF m 16 #[.val (.int p0), .val (.int p1), .val (.int (((p1.toUInt32 >>> ((1 : Int32) &&& 31).toUInt32).toInt32) &&& (7 : Int32)))] [(.int (1 : Int32)), (.int (((p1.toUInt32 >>> ((1 : Int32) &&& 31).toUInt32).toInt32) &&& (7 : Int32)))])) _
          refine XS.icmpYes X0.here hx rfl (pc0 := 16) (pc' := 22) rfl (hb hby d1_16) rfl (feq (show ¬ ((((p1.toUInt32 >>> ((1 : Int32) &&& 31).toUInt32).toInt32) &&& (7 : Int32)) = (1 : Int32)) from hc16)).2 (by decide) (by decide) ?_
          show Steps p.tables e below (s₁.setTop (mkF m 22 #[.val (.int p0), .val (.int p1), .val (.int (((p1.toUInt32 >>> ((1 : Int32) &&& 31).toUInt32).toInt32) &&& (7 : Int32)))] [])) _
          refine XS.iloadN X0.here hx rfl (hb hby d1_22) rfl ?_
          show Steps p.tables e below (s₁.setTop (mkF m 23 #[.val (.int p0), .val (.int p1), .val (.int (((p1.toUInt32 >>> ((1 : Int32) &&& 31).toUInt32).toInt32) &&& (7 : Int32)))] [(.int (((p1.toUInt32 >>> ((1 : Int32) &&& 31).toUInt32).toInt32) &&& (7 : Int32)))])) _
          refine XS.iconst X0.here hx rfl (hb hby d1_23) ?_
          exact kt)
      by_cases hc24 : (((p1.toUInt32 >>> ((1 : Int32) &&& 31).toUInt32).toInt32) &&& (7 : Int32)) = (2 : Int32)
      · obtain ⟨fs, hr, hrun, hended, hW, hsame⟩ := X0.leave (v := some (.int (133 : Int32))) (fun h => by rw [Bd.returns] at h; cases h)
        refine ⟨_, _, pre3 _ ?_, hrun, hended, _, _, rfl, ?_, ⟨_, rfl⟩, hW, hsame.mono (by decide) (by decide)⟩
        · show Steps p.tables e below (s₁.setTop (mkF m 24 #[.val (.int p0), .val (.int p1), .val (.int (((p1.toUInt32 >>> ((1 : Int32) &&& 31).toUInt32).toInt32) &&& (7 : Int32)))] [(.int (2 : Int32)), (.int (((p1.toUInt32 >>> ((1 : Int32) &&& 31).toUInt32).toInt32) &&& (7 : Int32)))])) _
          refine XS.icmpNo X0.here hx rfl (hb hby d1_24) rfl (teq (show (((p1.toUInt32 >>> ((1 : Int32) &&& 31).toUInt32).toInt32) &&& (7 : Int32)) = (2 : Int32) from hc24)).2 ?_
          show Steps p.tables e below (s₁.setTop (mkF m 27 #[.val (.int p0), .val (.int p1), .val (.int (((p1.toUInt32 >>> ((1 : Int32) &&& 31).toUInt32).toInt32) &&& (7 : Int32)))] [])) _
          refine XS.sipush X0.here hx rfl (hb hby d1_27) ?_
          show Steps p.tables e below (s₁.setTop (mkF m 30 #[.val (.int p0), .val (.int p1), .val (.int (((p1.toUInt32 >>> ((1 : Int32) &&& 31).toUInt32).toInt32) &&& (7 : Int32)))] [(.int (133 : Int32))])) _
          exact retI X0 hx Bd.returns (hb hby d1_30) hr
        · show Q1 p0 p1 h0 n0 _ s₁.heap _
          rw [e0]
          exact ⟨(by rw [pickV, if_neg hc8, if_neg hc16, if_pos hc24]), N0, rfl⟩
      · have pre4 : ∀ t, Steps p.tables e below (s₁.setTop (mkF m 33 #[.val (.int p0), .val (.int p1), .val (.int (((p1.toUInt32 >>> ((1 : Int32) &&& 31).toUInt32).toInt32) &&& (7 : Int32)))] [(.int (3 : Int32)), (.int (((p1.toUInt32 >>> ((1 : Int32) &&& 31).toUInt32).toInt32) &&& (7 : Int32)))])) t → Steps p.tables e below (s₁.setTop (entryFrame m #[(.int p0), (.int p1)] 3)) t := fun t kt => pre3 t (by
            show Steps p.tables e below (s₁.setTop (mkF m 24 #[.val (.int p0), .val (.int p1), .val (.int (((p1.toUInt32 >>> ((1 : Int32) &&& 31).toUInt32).toInt32) &&& (7 : Int32)))] [(.int (2 : Int32)), (.int (((p1.toUInt32 >>> ((1 : Int32) &&& 31).toUInt32).toInt32) &&& (7 : Int32)))])) _
            refine XS.icmpYes X0.here hx rfl (pc0 := 24) (pc' := 31) rfl (hb hby d1_24) rfl (feq (show ¬ ((((p1.toUInt32 >>> ((1 : Int32) &&& 31).toUInt32).toInt32) &&& (7 : Int32)) = (2 : Int32)) from hc24)).2 (by decide) (by decide) ?_
            show Steps p.tables e below (s₁.setTop (mkF m 31 #[.val (.int p0), .val (.int p1), .val (.int (((p1.toUInt32 >>> ((1 : Int32) &&& 31).toUInt32).toInt32) &&& (7 : Int32)))] [])) _
            refine XS.iloadN X0.here hx rfl (hb hby d1_31) rfl ?_
            show Steps p.tables e below (s₁.setTop (mkF m 32 #[.val (.int p0), .val (.int p1), .val (.int (((p1.toUInt32 >>> ((1 : Int32) &&& 31).toUInt32).toInt32) &&& (7 : Int32)))] [(.int (((p1.toUInt32 >>> ((1 : Int32) &&& 31).toUInt32).toInt32) &&& (7 : Int32)))])) _
            refine XS.iconst X0.here hx rfl (hb hby d1_32) ?_
            exact kt)
        by_cases hc33 : (((p1.toUInt32 >>> ((1 : Int32) &&& 31).toUInt32).toInt32) &&& (7 : Int32)) = (3 : Int32)
        · obtain ⟨fs, hr, hrun, hended, hW, hsame⟩ := X0.leave (v := some (.int (8232 : Int32))) (fun h => by rw [Bd.returns] at h; cases h)
          refine ⟨_, _, pre4 _ ?_, hrun, hended, _, _, rfl, ?_, ⟨_, rfl⟩, hW, hsame.mono (by decide) (by decide)⟩
          · show Steps p.tables e below (s₁.setTop (mkF m 33 #[.val (.int p0), .val (.int p1), .val (.int (((p1.toUInt32 >>> ((1 : Int32) &&& 31).toUInt32).toInt32) &&& (7 : Int32)))] [(.int (3 : Int32)), (.int (((p1.toUInt32 >>> ((1 : Int32) &&& 31).toUInt32).toInt32) &&& (7 : Int32)))])) _
            refine XS.icmpNo X0.here hx rfl (hb hby d1_33) rfl (teq (show (((p1.toUInt32 >>> ((1 : Int32) &&& 31).toUInt32).toInt32) &&& (7 : Int32)) = (3 : Int32) from hc33)).2 ?_
            show Steps p.tables e below (s₁.setTop (mkF m 36 #[.val (.int p0), .val (.int p1), .val (.int (((p1.toUInt32 >>> ((1 : Int32) &&& 31).toUInt32).toInt32) &&& (7 : Int32)))] [])) _
            refine XS.sipush X0.here hx rfl (hb hby d1_36) ?_
            show Steps p.tables e below (s₁.setTop (mkF m 39 #[.val (.int p0), .val (.int p1), .val (.int (((p1.toUInt32 >>> ((1 : Int32) &&& 31).toUInt32).toInt32) &&& (7 : Int32)))] [(.int (8232 : Int32))])) _
            exact retI X0 hx Bd.returns (hb hby d1_39) hr
          · show Q1 p0 p1 h0 n0 _ s₁.heap _
            rw [e0]
            exact ⟨(by rw [pickV, if_neg hc8, if_neg hc16, if_neg hc24, if_pos hc33]), N0, rfl⟩
        · have pre5 : ∀ t, Steps p.tables e below (s₁.setTop (mkF m 42 #[.val (.int p0), .val (.int p1), .val (.int (((p1.toUInt32 >>> ((1 : Int32) &&& 31).toUInt32).toInt32) &&& (7 : Int32)))] [(.int (4 : Int32)), (.int (((p1.toUInt32 >>> ((1 : Int32) &&& 31).toUInt32).toInt32) &&& (7 : Int32)))])) t → Steps p.tables e below (s₁.setTop (entryFrame m #[(.int p0), (.int p1)] 3)) t := fun t kt => pre4 t (by
              show Steps p.tables e below (s₁.setTop (mkF m 33 #[.val (.int p0), .val (.int p1), .val (.int (((p1.toUInt32 >>> ((1 : Int32) &&& 31).toUInt32).toInt32) &&& (7 : Int32)))] [(.int (3 : Int32)), (.int (((p1.toUInt32 >>> ((1 : Int32) &&& 31).toUInt32).toInt32) &&& (7 : Int32)))])) _
              refine XS.icmpYes X0.here hx rfl (pc0 := 33) (pc' := 40) rfl (hb hby d1_33) rfl (feq (show ¬ ((((p1.toUInt32 >>> ((1 : Int32) &&& 31).toUInt32).toInt32) &&& (7 : Int32)) = (3 : Int32)) from hc33)).2 (by decide) (by decide) ?_
              show Steps p.tables e below (s₁.setTop (mkF m 40 #[.val (.int p0), .val (.int p1), .val (.int (((p1.toUInt32 >>> ((1 : Int32) &&& 31).toUInt32).toInt32) &&& (7 : Int32)))] [])) _
              refine XS.iloadN X0.here hx rfl (hb hby d1_40) rfl ?_
              show Steps p.tables e below (s₁.setTop (mkF m 41 #[.val (.int p0), .val (.int p1), .val (.int (((p1.toUInt32 >>> ((1 : Int32) &&& 31).toUInt32).toInt32) &&& (7 : Int32)))] [(.int (((p1.toUInt32 >>> ((1 : Int32) &&& 31).toUInt32).toInt32) &&& (7 : Int32)))])) _
              refine XS.iconst X0.here hx rfl (hb hby d1_41) ?_
              exact kt)
          by_cases hc42 : (((p1.toUInt32 >>> ((1 : Int32) &&& 31).toUInt32).toInt32) &&& (7 : Int32)) = (4 : Int32)
          · obtain ⟨fs, hr, hrun, hended, hW, hsame⟩ := X0.leave (v := some (.int (8233 : Int32))) (fun h => by rw [Bd.returns] at h; cases h)
            refine ⟨_, _, pre5 _ ?_, hrun, hended, _, _, rfl, ?_, ⟨_, rfl⟩, hW, hsame.mono (by decide) (by decide)⟩
            · show Steps p.tables e below (s₁.setTop (mkF m 42 #[.val (.int p0), .val (.int p1), .val (.int (((p1.toUInt32 >>> ((1 : Int32) &&& 31).toUInt32).toInt32) &&& (7 : Int32)))] [(.int (4 : Int32)), (.int (((p1.toUInt32 >>> ((1 : Int32) &&& 31).toUInt32).toInt32) &&& (7 : Int32)))])) _
              refine XS.icmpNo X0.here hx rfl (hb hby d1_42) rfl (teq (show (((p1.toUInt32 >>> ((1 : Int32) &&& 31).toUInt32).toInt32) &&& (7 : Int32)) = (4 : Int32) from hc42)).2 ?_
              show Steps p.tables e below (s₁.setTop (mkF m 45 #[.val (.int p0), .val (.int p1), .val (.int (((p1.toUInt32 >>> ((1 : Int32) &&& 31).toUInt32).toInt32) &&& (7 : Int32)))] [])) _
              refine XS.sipush X0.here hx rfl (hb hby d1_45) ?_
              show Steps p.tables e below (s₁.setTop (mkF m 48 #[.val (.int p0), .val (.int p1), .val (.int (((p1.toUInt32 >>> ((1 : Int32) &&& 31).toUInt32).toInt32) &&& (7 : Int32)))] [(.int (8233 : Int32))])) _
              exact retI X0 hx Bd.returns (hb hby d1_48) hr
            · show Q1 p0 p1 h0 n0 _ s₁.heap _
              rw [e0]
              exact ⟨(by rw [pickV, if_neg hc8, if_neg hc16, if_neg hc24, if_neg hc33, if_pos hc42]), N0, rfl⟩
          · obtain ⟨fs, hr, hrun, hended, hW, hsame⟩ := X0.leave (v := some (.int (p0 &&& (65535 : Int32)))) (fun h => by rw [Bd.returns] at h; cases h)
            refine ⟨_, _, pre5 _ ?_, hrun, hended, _, _, rfl, ?_, ⟨_, rfl⟩, hW, hsame.mono (by decide) (by decide)⟩
            · show Steps p.tables e below (s₁.setTop (mkF m 42 #[.val (.int p0), .val (.int p1), .val (.int (((p1.toUInt32 >>> ((1 : Int32) &&& 31).toUInt32).toInt32) &&& (7 : Int32)))] [(.int (4 : Int32)), (.int (((p1.toUInt32 >>> ((1 : Int32) &&& 31).toUInt32).toInt32) &&& (7 : Int32)))])) _
              refine XS.icmpYes X0.here hx rfl (pc0 := 42) (pc' := 49) rfl (hb hby d1_42) rfl (feq (show ¬ ((((p1.toUInt32 >>> ((1 : Int32) &&& 31).toUInt32).toInt32) &&& (7 : Int32)) = (4 : Int32)) from hc42)).2 (by decide) (by decide) ?_
              show Steps p.tables e below (s₁.setTop (mkF m 49 #[.val (.int p0), .val (.int p1), .val (.int (((p1.toUInt32 >>> ((1 : Int32) &&& 31).toUInt32).toInt32) &&& (7 : Int32)))] [])) _
              refine XS.iloadN X0.here hx rfl (hb hby d1_49) rfl ?_
              show Steps p.tables e below (s₁.setTop (mkF m 50 #[.val (.int p0), .val (.int p1), .val (.int (((p1.toUInt32 >>> ((1 : Int32) &&& 31).toUInt32).toInt32) &&& (7 : Int32)))] [(.int p0)])) _
              refine X0.ldcI hx hown (mvT hZ (hw _ (List.mem_of_getElem? (i := 8) rfl))) (g := (mkF m 50 #[.val (.int p0), .val (.int p1), .val (.int (((p1.toUInt32 >>> ((1 : Int32) &&& 31).toUInt32).toInt32) &&& (7 : Int32)))] [(.int p0)])) rfl (hb hby d1_50) ?_
              show Steps p.tables e below (s₁.setTop (mkF m 52 #[.val (.int p0), .val (.int p1), .val (.int (((p1.toUInt32 >>> ((1 : Int32) &&& 31).toUInt32).toInt32) &&& (7 : Int32)))] [(.int (65535 : Int32)), (.int p0)])) _
              refine XS.iand X0.here hx rfl (hb hby d1_52) rfl ?_
              show Steps p.tables e below (s₁.setTop (mkF m 53 #[.val (.int p0), .val (.int p1), .val (.int (((p1.toUInt32 >>> ((1 : Int32) &&& 31).toUInt32).toInt32) &&& (7 : Int32)))] [(.int (p0 &&& (65535 : Int32)))])) _
              exact retI X0 hx Bd.returns (hb hby d1_53) hr
            · show Q1 p0 p1 h0 n0 _ s₁.heap _
              rw [e0]
              exact ⟨(by rw [pickV, if_neg hc8, if_neg hc16, if_neg hc24, if_neg hc33, if_neg hc42]), N0, rfl⟩
theorem d2_0 : decode prog_115_method_3_code 0 = .ok (.iload_n 0, 1) := by decide +kernel
theorem d2_1 : decode prog_115_method_3_code 1 = .ok (.bipush 13, 2) := by decide +kernel
theorem d2_3 : decode prog_115_method_3_code 3 = .ok (.if_icmp .eq 27, 3) := by decide +kernel
theorem d2_6 : decode prog_115_method_3_code 6 = .ok (.iload_n 0, 1) := by decide +kernel
theorem d2_7 : decode prog_115_method_3_code 7 = .ok (.bipush 10, 2) := by decide +kernel
theorem d2_9 : decode prog_115_method_3_code 9 = .ok (.if_icmp .eq 21, 3) := by decide +kernel
theorem d2_12 : decode prog_115_method_3_code 12 = .ok (.iload_n 1, 1) := by decide +kernel
theorem d2_13 : decode prog_115_method_3_code 13 = .ok (.ifCond .eq 21, 3) := by decide +kernel
theorem d2_16 : decode prog_115_method_3_code 16 = .ok (.iload_n 0, 1) := by decide +kernel
theorem d2_17 : decode prog_115_method_3_code 17 = .ok (.sipush 133, 3) := by decide +kernel
theorem d2_20 : decode prog_115_method_3_code 20 = .ok (.if_icmp .eq 10, 3) := by decide +kernel
theorem d2_23 : decode prog_115_method_3_code 23 = .ok (.iload_n 0, 1) := by decide +kernel
theorem d2_24 : decode prog_115_method_3_code 24 = .ok (.sipush 8232, 3) := by decide +kernel
theorem d2_27 : decode prog_115_method_3_code 27 = .ok (.if_icmp .ne 7, 3) := by decide +kernel
theorem d2_30 : decode prog_115_method_3_code 30 = .ok (.iconst 1, 1) := by decide +kernel
theorem d2_31 : decode prog_115_method_3_code 31 = .ok (.goto 4, 3) := by decide +kernel
theorem d2_34 : decode prog_115_method_3_code 34 = .ok (.iconst 0, 1) := by decide +kernel
theorem d2_35 : decode prog_115_method_3_code 35 = .ok (.ireturn, 1) := by decide +kernel
theorem pn_1 : plainName "com/example/inked_rows/inkedrows/xml/Lines" = true := by first | (simp [plainName, overriddenIn]; done) | decide +kernel
theorem ef_2 (m : MethodId) (p0 : Int32) (p1 : Int32) : entryFrame m #[(.int p0), (.int p1)] 2 = mkF m 0 #[.val (.int p0), .val (.int p1)] [] := by first | (simp [entryFrame, mkF, argsToLocals, Value.category]; done) | rfl
def Q2 (p0 p1 : Int32) (h0 : Heap) (n0 : Nat) (v : Option Value) (h : Heap) (L : List Loc) : Prop := v = some (.int (endsV p0 p1)) ∧ Fr n0 L ∧ h = h0
set_option maxRecDepth 65536 in
set_option maxHeartbeats 40000000 in
theorem rm2 (l : Launch) (Z : State) (a0 : Array Value) (hw : ∀ d ∈ tables_1, d.before a0 Z = true) (ws : List Jvm.Cond) (p0 p1 : Int32) (h0 : Heap) (n0 : Nat) (Z0 : n0 ≤ h0.size)  :
    MetFree l (⟨"com/example/inked_rows/inkedrows/xml/Lines", "endsLine", "(CZ)Z"⟩ : MethodName) (head1 (Jvm.Cond.code (⟨"com/example/inked_rows/inkedrows/xml/Lines", "endsLine", "(CZ)Z"⟩ : MethodName) prog_115_method_3_code 2 (some .boolean) :: ws) ({ frames := 0, cells := 0, slots := 0, locals := 0 } : Room)) (fun a U => a = #[(.int p0), (.int p1)] ∧ Z.Warmed39 U.vm ∧ U.heap = h0) (fun _ _ _ _ _ => True) (fun _ U o U' => ∃ v L, o = .returned v ∧ Q2 p0 p1 h0 n0 v U'.heap L ∧ FrameEnd U o U' L ({ frames := 0, cells := 0, slots := 0, locals := 0 } : Room).cells ({ frames := 0, cells := 0, slots := 0, locals := 0 } : Room).slots) := by
  refine MetFree.of_bodySF (plainFor_of_name pn_1) hisR ?_
  intro p e s m args below meth c s₁ Bd hml0 hP hK
  obtain ⟨rfl, hZ, hh⟩ := hP
  have hx := Bd.exec
  have hby := Bd.bytes
  have hml : c.maxLocals = 2 := hml0
  have hown : s.vm.findClass "com/example/inked_rows/inkedrows/xml/Lines" = some m.cls := findClass_of_methodNamed Bd.named
  have hnm := (name_of_methodNamed Bd.named Bd.method).1
  have X0 : Stand p l e ({ frames := 0, cells := 0, slots := 0, locals := 0 } : Room) s m #[(.int p0), (.int p1)] below meth c s₁ [] 0 0 := Stand.of_body Bd
  have e0 : s₁.heap = h0 := by rw [← hh, Bd.state]; rfl
  have N0 := Fr.nil n0
  have pre0 : ∀ t, Steps p.tables e below (s₁.setTop (mkF m 0 #[.val (.int p0), .val (.int p1)] [])) t → Steps p.tables e below (s₁.setTop (entryFrame m #[(.int p0), (.int p1)] 2)) t := fun t k => castTop (ef_2 m p0 p1) k
  have pre1 : ∀ t, Steps p.tables e below (s₁.setTop (mkF m 3 #[.val (.int p0), .val (.int p1)] [(.int (13 : Int32)), (.int p0)])) t → Steps p.tables e below (s₁.setTop (entryFrame m #[(.int p0), (.int p1)] 2)) t := fun t kt => pre0 t (by
      show Steps p.tables e below (s₁.setTop (mkF m 0 #[.val (.int p0), .val (.int p1)] [])) _
      refine XS.iloadN X0.here hx rfl (hb hby d2_0) rfl ?_
      show Steps p.tables e below (s₁.setTop (mkF m 1 #[.val (.int p0), .val (.int p1)] [(.int p0)])) _
      refine XS.bipush X0.here hx rfl (hb hby d2_1) ?_
      exact kt)
  by_cases hc3 : p0 = (13 : Int32)
  · obtain ⟨fs, hr, hrun, hended, hW, hsame⟩ := X0.leave (v := some (.int (1 : Int32))) (fun h => by rw [Bd.returns] at h; cases h)
    refine ⟨_, _, pre1 _ ?_, hrun, hended, _, _, rfl, ?_, ⟨_, rfl⟩, hW, hsame.mono (by decide) (by decide)⟩
    · show Steps p.tables e below (s₁.setTop (mkF m 3 #[.val (.int p0), .val (.int p1)] [(.int (13 : Int32)), (.int p0)])) _
      refine XS.icmpYes X0.here hx rfl (pc0 := 3) (pc' := 30) rfl (hb hby d2_3) rfl (teq (show p0 = (13 : Int32) from hc3)).1 (by decide) (by decide) ?_
      show Steps p.tables e below (s₁.setTop (mkF m 30 #[.val (.int p0), .val (.int p1)] [])) _
      refine XS.iconst X0.here hx rfl (hb hby d2_30) ?_
      show Steps p.tables e below (s₁.setTop (mkF m 31 #[.val (.int p0), .val (.int p1)] [(.int (1 : Int32))])) _
      refine XS.goto X0.here hx rfl (pc0 := 31) (pc' := 35) rfl (hb hby d2_31) (by decide) (by decide) ?_
      show Steps p.tables e below (s₁.setTop (mkF m 35 #[.val (.int p0), .val (.int p1)] [(.int (1 : Int32))])) _
      exact retN X0 hx (t := .boolean) Bd.returns (by simp) (hb hby d2_35) hr
    · show Q2 p0 p1 h0 n0 _ s₁.heap _
      rw [e0]
      exact ⟨(by rw [endsV, if_pos hc3]), N0, rfl⟩
  · have pre2 : ∀ t, Steps p.tables e below (s₁.setTop (mkF m 9 #[.val (.int p0), .val (.int p1)] [(.int (10 : Int32)), (.int p0)])) t → Steps p.tables e below (s₁.setTop (entryFrame m #[(.int p0), (.int p1)] 2)) t := fun t kt => pre1 t (by
        show Steps p.tables e below (s₁.setTop (mkF m 3 #[.val (.int p0), .val (.int p1)] [(.int (13 : Int32)), (.int p0)])) _
        refine XS.icmpNo X0.here hx rfl (hb hby d2_3) rfl (feq (show ¬ (p0 = (13 : Int32)) from hc3)).1 ?_
        show Steps p.tables e below (s₁.setTop (mkF m 6 #[.val (.int p0), .val (.int p1)] [])) _
        refine XS.iloadN X0.here hx rfl (hb hby d2_6) rfl ?_
        show Steps p.tables e below (s₁.setTop (mkF m 7 #[.val (.int p0), .val (.int p1)] [(.int p0)])) _
        refine XS.bipush X0.here hx rfl (hb hby d2_7) ?_
        exact kt)
    by_cases hc9 : p0 = (10 : Int32)
    · obtain ⟨fs, hr, hrun, hended, hW, hsame⟩ := X0.leave (v := some (.int (1 : Int32))) (fun h => by rw [Bd.returns] at h; cases h)
      refine ⟨_, _, pre2 _ ?_, hrun, hended, _, _, rfl, ?_, ⟨_, rfl⟩, hW, hsame.mono (by decide) (by decide)⟩
      · show Steps p.tables e below (s₁.setTop (mkF m 9 #[.val (.int p0), .val (.int p1)] [(.int (10 : Int32)), (.int p0)])) _
        refine XS.icmpYes X0.here hx rfl (pc0 := 9) (pc' := 30) rfl (hb hby d2_9) rfl (teq (show p0 = (10 : Int32) from hc9)).1 (by decide) (by decide) ?_
        show Steps p.tables e below (s₁.setTop (mkF m 30 #[.val (.int p0), .val (.int p1)] [])) _
        refine XS.iconst X0.here hx rfl (hb hby d2_30) ?_
        show Steps p.tables e below (s₁.setTop (mkF m 31 #[.val (.int p0), .val (.int p1)] [(.int (1 : Int32))])) _
        refine XS.goto X0.here hx rfl (pc0 := 31) (pc' := 35) rfl (hb hby d2_31) (by decide) (by decide) ?_
        show Steps p.tables e below (s₁.setTop (mkF m 35 #[.val (.int p0), .val (.int p1)] [(.int (1 : Int32))])) _
        exact retN X0 hx (t := .boolean) Bd.returns (by simp) (hb hby d2_35) hr
      · show Q2 p0 p1 h0 n0 _ s₁.heap _
        rw [e0]
        exact ⟨(by rw [endsV, if_neg hc3, if_pos hc9]), N0, rfl⟩
    · have pre3 : ∀ t, Steps p.tables e below (s₁.setTop (mkF m 13 #[.val (.int p0), .val (.int p1)] [(.int p1)])) t → Steps p.tables e below (s₁.setTop (entryFrame m #[(.int p0), (.int p1)] 2)) t := fun t kt => pre2 t (by
          show Steps p.tables e below (s₁.setTop (mkF m 9 #[.val (.int p0), .val (.int p1)] [(.int (10 : Int32)), (.int p0)])) _
          refine XS.icmpNo X0.here hx rfl (hb hby d2_9) rfl (feq (show ¬ (p0 = (10 : Int32)) from hc9)).1 ?_
          show Steps p.tables e below (s₁.setTop (mkF m 12 #[.val (.int p0), .val (.int p1)] [])) _
          refine XS.iloadN X0.here hx rfl (hb hby d2_12) rfl ?_
          exact kt)
      by_cases hc13 : p1 = (0 : Int32)
      · obtain ⟨fs, hr, hrun, hended, hW, hsame⟩ := X0.leave (v := some (.int (0 : Int32))) (fun h => by rw [Bd.returns] at h; cases h)
        refine ⟨_, _, pre3 _ ?_, hrun, hended, _, _, rfl, ?_, ⟨_, rfl⟩, hW, hsame.mono (by decide) (by decide)⟩
        · show Steps p.tables e below (s₁.setTop (mkF m 13 #[.val (.int p0), .val (.int p1)] [(.int p1)])) _
          refine XS.ifYes X0.here hx rfl (pc0 := 13) (pc' := 34) rfl (hb hby d2_13) rfl ((if0 _ _).trans (teq (show p1 = (0 : Int32) from hc13)).1) (by decide) (by decide) ?_
          show Steps p.tables e below (s₁.setTop (mkF m 34 #[.val (.int p0), .val (.int p1)] [])) _
          refine XS.iconst X0.here hx rfl (hb hby d2_34) ?_
          show Steps p.tables e below (s₁.setTop (mkF m 35 #[.val (.int p0), .val (.int p1)] [(.int (0 : Int32))])) _
          exact retN X0 hx (t := .boolean) Bd.returns (by simp) (hb hby d2_35) hr
        · show Q2 p0 p1 h0 n0 _ s₁.heap _
          rw [e0]
          exact ⟨(by rw [endsV, if_neg hc3, if_neg hc9, if_pos hc13]), N0, rfl⟩
      · have pre4 : ∀ t, Steps p.tables e below (s₁.setTop (mkF m 20 #[.val (.int p0), .val (.int p1)] [(.int (133 : Int32)), (.int p0)])) t → Steps p.tables e below (s₁.setTop (entryFrame m #[(.int p0), (.int p1)] 2)) t := fun t kt => pre3 t (by
            show Steps p.tables e below (s₁.setTop (mkF m 13 #[.val (.int p0), .val (.int p1)] [(.int p1)])) _
            refine XS.ifNo X0.here hx rfl (hb hby d2_13) rfl ((if0 _ _).trans (feq (show ¬ (p1 = (0 : Int32)) from hc13)).1) ?_
            show Steps p.tables e below (s₁.setTop (mkF m 16 #[.val (.int p0), .val (.int p1)] [])) _
            refine XS.iloadN X0.here hx rfl (hb hby d2_16) rfl ?_
            show Steps p.tables e below (s₁.setTop (mkF m 17 #[.val (.int p0), .val (.int p1)] [(.int p0)])) _
            refine XS.sipush X0.here hx rfl (hb hby d2_17) ?_
            exact kt)
        by_cases hc20 : p0 = (133 : Int32)
        · obtain ⟨fs, hr, hrun, hended, hW, hsame⟩ := X0.leave (v := some (.int (1 : Int32))) (fun h => by rw [Bd.returns] at h; cases h)
          refine ⟨_, _, pre4 _ ?_, hrun, hended, _, _, rfl, ?_, ⟨_, rfl⟩, hW, hsame.mono (by decide) (by decide)⟩
          · show Steps p.tables e below (s₁.setTop (mkF m 20 #[.val (.int p0), .val (.int p1)] [(.int (133 : Int32)), (.int p0)])) _
            refine XS.icmpYes X0.here hx rfl (pc0 := 20) (pc' := 30) rfl (hb hby d2_20) rfl (teq (show p0 = (133 : Int32) from hc20)).1 (by decide) (by decide) ?_
            show Steps p.tables e below (s₁.setTop (mkF m 30 #[.val (.int p0), .val (.int p1)] [])) _
            refine XS.iconst X0.here hx rfl (hb hby d2_30) ?_
            show Steps p.tables e below (s₁.setTop (mkF m 31 #[.val (.int p0), .val (.int p1)] [(.int (1 : Int32))])) _
            refine XS.goto X0.here hx rfl (pc0 := 31) (pc' := 35) rfl (hb hby d2_31) (by decide) (by decide) ?_
            show Steps p.tables e below (s₁.setTop (mkF m 35 #[.val (.int p0), .val (.int p1)] [(.int (1 : Int32))])) _
            exact retN X0 hx (t := .boolean) Bd.returns (by simp) (hb hby d2_35) hr
          · show Q2 p0 p1 h0 n0 _ s₁.heap _
            rw [e0]
            exact ⟨(by rw [endsV, if_neg hc3, if_neg hc9, if_neg hc13, if_pos hc20]), N0, rfl⟩
        · have pre5 : ∀ t, Steps p.tables e below (s₁.setTop (mkF m 27 #[.val (.int p0), .val (.int p1)] [(.int (8232 : Int32)), (.int p0)])) t → Steps p.tables e below (s₁.setTop (entryFrame m #[(.int p0), (.int p1)] 2)) t := fun t kt => pre4 t (by
              show Steps p.tables e below (s₁.setTop (mkF m 20 #[.val (.int p0), .val (.int p1)] [(.int (133 : Int32)), (.int p0)])) _
              refine XS.icmpNo X0.here hx rfl (hb hby d2_20) rfl (feq (show ¬ (p0 = (133 : Int32)) from hc20)).1 ?_
              show Steps p.tables e below (s₁.setTop (mkF m 23 #[.val (.int p0), .val (.int p1)] [])) _
              refine XS.iloadN X0.here hx rfl (hb hby d2_23) rfl ?_
              show Steps p.tables e below (s₁.setTop (mkF m 24 #[.val (.int p0), .val (.int p1)] [(.int p0)])) _
              refine XS.sipush X0.here hx rfl (hb hby d2_24) ?_
              exact kt)
          by_cases hc27 : p0 = (8232 : Int32)
          · obtain ⟨fs, hr, hrun, hended, hW, hsame⟩ := X0.leave (v := some (.int (1 : Int32))) (fun h => by rw [Bd.returns] at h; cases h)
            refine ⟨_, _, pre5 _ ?_, hrun, hended, _, _, rfl, ?_, ⟨_, rfl⟩, hW, hsame.mono (by decide) (by decide)⟩
            · show Steps p.tables e below (s₁.setTop (mkF m 27 #[.val (.int p0), .val (.int p1)] [(.int (8232 : Int32)), (.int p0)])) _
              refine XS.icmpNo X0.here hx rfl (hb hby d2_27) rfl (teq (show p0 = (8232 : Int32) from hc27)).2 ?_
              show Steps p.tables e below (s₁.setTop (mkF m 30 #[.val (.int p0), .val (.int p1)] [])) _
              refine XS.iconst X0.here hx rfl (hb hby d2_30) ?_
              show Steps p.tables e below (s₁.setTop (mkF m 31 #[.val (.int p0), .val (.int p1)] [(.int (1 : Int32))])) _
              refine XS.goto X0.here hx rfl (pc0 := 31) (pc' := 35) rfl (hb hby d2_31) (by decide) (by decide) ?_
              show Steps p.tables e below (s₁.setTop (mkF m 35 #[.val (.int p0), .val (.int p1)] [(.int (1 : Int32))])) _
              exact retN X0 hx (t := .boolean) Bd.returns (by simp) (hb hby d2_35) hr
            · show Q2 p0 p1 h0 n0 _ s₁.heap _
              rw [e0]
              exact ⟨(by rw [endsV, if_neg hc3, if_neg hc9, if_neg hc13, if_neg hc20, if_pos hc27]), N0, rfl⟩
          · obtain ⟨fs, hr, hrun, hended, hW, hsame⟩ := X0.leave (v := some (.int (0 : Int32))) (fun h => by rw [Bd.returns] at h; cases h)
            refine ⟨_, _, pre5 _ ?_, hrun, hended, _, _, rfl, ?_, ⟨_, rfl⟩, hW, hsame.mono (by decide) (by decide)⟩
            · show Steps p.tables e below (s₁.setTop (mkF m 27 #[.val (.int p0), .val (.int p1)] [(.int (8232 : Int32)), (.int p0)])) _
              refine XS.icmpYes X0.here hx rfl (pc0 := 27) (pc' := 34) rfl (hb hby d2_27) rfl (feq (show ¬ (p0 = (8232 : Int32)) from hc27)).2 (by decide) (by decide) ?_
              show Steps p.tables e below (s₁.setTop (mkF m 34 #[.val (.int p0), .val (.int p1)] [])) _
              refine XS.iconst X0.here hx rfl (hb hby d2_34) ?_
              show Steps p.tables e below (s₁.setTop (mkF m 35 #[.val (.int p0), .val (.int p1)] [(.int (0 : Int32))])) _
              exact retN X0 hx (t := .boolean) Bd.returns (by simp) (hb hby d2_35) hr
            · show Q2 p0 p1 h0 n0 _ s₁.heap _
              rw [e0]
              exact ⟨(by rw [endsV, if_neg hc3, if_neg hc9, if_neg hc13, if_neg hc20, if_neg hc27]), N0, rfl⟩
theorem pd_0 : parseMethodDescriptor "(II)I" = some ⟨[.int, .int], some .int⟩ := by decide +kernel
theorem pd_1 : parseMethodDescriptor "(CZ)Z" = some ⟨[.char, .boolean], some .boolean⟩ := by decide +kernel
theorem ef_0 (m : MethodId) (p0 : Int32) (p1 : Int32) : entryFrame m #[(.int p0), (.int p1)] maxLocals = mkF m 0 #[.val (.int p0), .val (.int p1), .unset, .unset, .unset, .unset, .unset, .unset] [] := by first | (simp [entryFrame, mkF, argsToLocals, Value.category, maxLocals]; done) | rfl
def Q0 (h0 : Heap) (n0 : Nat) (v : Option Value) (h : Heap) (L : List Loc) : Prop := v = some (.int 1) ∧ Fr n0 L
set_option maxRecDepth 65536 in
set_option maxHeartbeats 40000000 in
theorem rm0 (l : Launch) (Z : State) (a0 : Array Value) (hw : ∀ d ∈ tables_1, d.before a0 Z = true) (ws : List Jvm.Cond) (p0 p1 : Int32) (h0 : Heap) (n0 : Nat) (Z0 : n0 ≤ h0.size)  :
    MetFree l x (head1 (Jvm.Cond.code x code maxLocals ret :: ws) room_1) (fun a U => a = #[(.int p0), (.int p1)] ∧ Z.Warmed39 U.vm ∧ U.heap = h0) (fun _ _ _ _ _ => True) (fun _ U o U' => ∃ v L, o = .returned v ∧ Q0 h0 n0 v U'.heap L ∧ FrameEnd U o U' L 0 0) := by
  refine MetFree.of_bodySF (plainFor_of_name pn_0) hisR ?_
  intro p e s m args below meth c s₁ Bd hml0 hP hK
  obtain ⟨rfl, hZ, hh⟩ := hP
  have hx := Bd.exec
  have hby := Bd.bytes
  have hml : c.maxLocals = 8 := hml0
  have hown : s.vm.findClass "com/example/inked_rows/inkedrows/xml/LinesEndsLinePinLaw" = some m.cls := findClass_of_methodNamed Bd.named
  have hnm := (name_of_methodNamed Bd.named Bd.method).1
  have X0 : Stand p l e room_1 s m #[(.int p0), (.int p1)] below meth c s₁ [] 0 0 := Stand.of_body Bd
  have e0 : s₁.heap = h0 := by rw [← hh, Bd.state]; rfl
  have N0 := Fr.nil n0
  have pre0 : ∀ t, Steps p.tables e below (s₁.setTop (mkF m 0 #[.val (.int p0), .val (.int p1), .unset, .unset, .unset, .unset, .unset, .unset] [])) t → Steps p.tables e below (s₁.setTop (entryFrame m #[(.int p0), (.int p1)] maxLocals)) t := fun t k => castTop (ef_0 m p0 p1) k
  have pre1 : ∀ t, Steps p.tables e below (s₁.setTop (mkF m 3 #[.val (.int p0), .val (.int p1), .unset, .unset, .unset, .unset, .unset, .unset] [(.int (p1 &&& (1 : Int32)))])) t → Steps p.tables e below (s₁.setTop (entryFrame m #[(.int p0), (.int p1)] maxLocals)) t := fun t kt => pre0 t (by
      show Steps p.tables e below (s₁.setTop (mkF m 0 #[.val (.int p0), .val (.int p1), .unset, .unset, .unset, .unset, .unset, .unset] [])) _
      refine XS.iloadN X0.here hx rfl (hb hby at_0) rfl ?_
      show Steps p.tables e below (s₁.setTop (mkF m 1 #[.val (.int p0), .val (.int p1), .unset, .unset, .unset, .unset, .unset, .unset] [(.int p1)])) _
      refine XS.iconst X0.here hx rfl (hb hby at_1) ?_
      show Steps p.tables e below (s₁.setTop (mkF m 2 #[.val (.int p0), .val (.int p1), .unset, .unset, .unset, .unset, .unset, .unset] [(.int (1 : Int32)), (.int p1)])) _
      refine XS.iand X0.here hx rfl (hb hby at_2) rfl ?_
      exact kt)
  by_cases hc3 : (p1 &&& (1 : Int32)) = (0 : Int32)
  · obtain ⟨_, _, ⟨T2, L2, k2, n2⟩, -, X2, ⟨Lc2, hQ2, l2, y2, z2⟩, st2⟩ := Jvm.LawKit.callS X0 hx (y := (⟨"com/example/inked_rows/inkedrows/xml/LinesEndsLinePinLaw", "pick", "(II)I"⟩ : MethodName)) hown (mvT hZ (hw _ (List.mem_of_getElem? (i := 0) rfl))) (mvT hZ (hw _ (List.mem_of_getElem? (i := 1) rfl))) (mvT hZ (hw _ (List.mem_of_getElem? (i := 2) rfl))) (mvT hZ (hw _ (List.mem_of_getElem? (i := 3) rfl))) (by decide) (backOf (W := 0) (rm1 l Z a0 hw [] p0 p1 h0 n0 Z0 ) hZ (hw _ (List.mem_of_getElem? (i := 3) rfl)) (hw _ (List.mem_of_getElem? (i := 2) rfl)) (by decide) (by decide)) (g := (mkF m 14 #[.val (.int p0), .val (.int p1), .val (.int (0 : Int32)), .unset, .unset, .unset, .unset, .unset] [(.int p1), (.int p0)])) rfl (by rw [hml]; rfl) (argsL := [(.int p0), (.int p1)]) (rest := []) (lenOf pd_0 rfl) rfl (by show 2 * 0 + _ ≤ _; exact Nat.le_of_eq rfl) (hb hby at_14) (fun _ _ => ⟨rfl, e0, (by decide : 0 + 0 ≤ _), (by decide : 0 + 0 ≤ _)⟩)
    dsimp only [Pt.U, Pt.locs, Pt.cells, Pt.slots] at X2 l2 y2 z2 st2 hQ2
    subst l2 y2 z2
    obtain ⟨rfl, N2q, e2⟩ := hQ2
    have N2 := Fr.app N0 N2q
    have pre3 : ∀ t, Steps p.tables e below (T2.setTop (mkF m 18 #[.val (.int p0), .val (.int p1), .val (.int (0 : Int32)), .val (.int (pickV p0 p1)), .unset, .unset, .unset, .unset] [])) t → Steps p.tables e below (s₁.setTop (entryFrame m #[(.int p0), (.int p1)] maxLocals)) t := fun t kt => pre1 t (by
        show Steps p.tables e below (s₁.setTop (mkF m 3 #[.val (.int p0), .val (.int p1), .unset, .unset, .unset, .unset, .unset, .unset] [(.int (p1 &&& (1 : Int32)))])) _
        refine XS.ifYes X0.here hx rfl (pc0 := 3) (pc' := 10) rfl (hb hby at_3) rfl ((if0 _ _).trans (teq (show (p1 &&& (1 : Int32)) = (0 : Int32) from hc3)).1) (by decide) (by decide) ?_
        show Steps p.tables e below (s₁.setTop (mkF m 10 #[.val (.int p0), .val (.int p1), .unset, .unset, .unset, .unset, .unset, .unset] [])) _
        refine XS.iconst X0.here hx rfl (hb hby at_10) ?_
        show Steps p.tables e below (s₁.setTop (mkF m 11 #[.val (.int p0), .val (.int p1), .unset, .unset, .unset, .unset, .unset, .unset] [(.int (0 : Int32))])) _
        refine XS.istoreN X0.here hx rfl (hb hby at_11) rfl (l' := #[.val (.int p0), .val (.int p1), .val (.int (0 : Int32)), .unset, .unset, .unset, .unset, .unset]) rfl ?_
        show Steps p.tables e below (s₁.setTop (mkF m 12 #[.val (.int p0), .val (.int p1), .val (.int (0 : Int32)), .unset, .unset, .unset, .unset, .unset] [])) _
        refine XS.iloadN X0.here hx rfl (hb hby at_12) rfl ?_
        show Steps p.tables e below (s₁.setTop (mkF m 13 #[.val (.int p0), .val (.int p1), .val (.int (0 : Int32)), .unset, .unset, .unset, .unset, .unset] [(.int p0)])) _
        refine XS.iloadN X0.here hx rfl (hb hby at_13) rfl ?_
        show Steps p.tables e below (s₁.setTop (mkF m 14 #[.val (.int p0), .val (.int p1), .val (.int (0 : Int32)), .unset, .unset, .unset, .unset, .unset] [(.int p1), (.int p0)])) _
        refine st2 _ ?_
        show Steps p.tables e below (T2.setTop (mkF m 17 #[.val (.int p0), .val (.int p1), .val (.int (0 : Int32)), .unset, .unset, .unset, .unset, .unset] [(.int (pickV p0 p1))])) _
        refine XS.istoreN X2.here hx rfl (hb hby at_17) rfl (l' := #[.val (.int p0), .val (.int p1), .val (.int (0 : Int32)), .val (.int (pickV p0 p1)), .unset, .unset, .unset, .unset]) rfl ?_
        exact kt)
    obtain ⟨v, hv⟩ : ∃ z : Int32, z = (pickV p0 p1) := ⟨_, rfl⟩
    rw [← hv] at pre3
    have pre4 : ∀ t, Steps p.tables e below (T2.setTop (mkF m 22 #[.val (.int p0), .val (.int p1), .val (.int (0 : Int32)), .val (.int v), .val (.int (v.toUInt32.toUInt16.toUInt32.toInt32)), .unset, .unset, .unset] [])) t → Steps p.tables e below (s₁.setTop (entryFrame m #[(.int p0), (.int p1)] maxLocals)) t := fun t kt => pre3 t (by
        show Steps p.tables e below (T2.setTop (mkF m 18 #[.val (.int p0), .val (.int p1), .val (.int (0 : Int32)), .val (.int v), .unset, .unset, .unset, .unset] [])) _
        refine XS.iloadN X2.here hx rfl (hb hby at_18) rfl ?_
        show Steps p.tables e below (T2.setTop (mkF m 19 #[.val (.int p0), .val (.int p1), .val (.int (0 : Int32)), .val (.int v), .unset, .unset, .unset, .unset] [(.int v)])) _
        refine XS.i2c X2.here hx rfl (hb hby at_19) rfl ?_
        show Steps p.tables e below (T2.setTop (mkF m 20 #[.val (.int p0), .val (.int p1), .val (.int (0 : Int32)), .val (.int v), .unset, .unset, .unset, .unset] [(.int (v.toUInt32.toUInt16.toUInt32.toInt32))])) _
        refine XS.istore X2.here hx rfl (hb hby at_20) rfl (l' := #[.val (.int p0), .val (.int p1), .val (.int (0 : Int32)), .val (.int v), .val (.int (v.toUInt32.toUInt16.toUInt32.toInt32)), .unset, .unset, .unset]) rfl ?_
        exact kt)
    have hcv : v.toUInt32.toUInt16.toUInt32.toInt32 = v := by rw [hv]; exact own_pick_c _ _
    rw [hcv] at pre4
    obtain ⟨_, _, ⟨T5, L5, k5, n5⟩, -, X5, ⟨Lc5, hQ5, l5, y5, z5⟩, st5⟩ := Jvm.LawKit.callS X2 hx (y := (⟨"com/example/inked_rows/inkedrows/xml/Lines", "endsLine", "(CZ)Z"⟩ : MethodName)) hown (mvT hZ (hw _ (List.mem_of_getElem? (i := 4) rfl))) (mvT hZ (hw _ (List.mem_of_getElem? (i := 5) rfl))) (mvT hZ (hw _ (List.mem_of_getElem? (i := 6) rfl))) (mvT hZ (hw _ (List.mem_of_getElem? (i := 7) rfl))) (by decide) (backOf (W := 0) (rm2 l Z a0 hw [] v (0 : Int32) h0 n0 Z0 ) hZ (hw _ (List.mem_of_getElem? (i := 7) rfl)) (hw _ (List.mem_of_getElem? (i := 6) rfl)) (by decide) (by decide)) (g := (mkF m 25 #[.val (.int p0), .val (.int p1), .val (.int (0 : Int32)), .val (.int v), .val (.int v), .unset, .unset, .unset] [(.int (0 : Int32)), (.int v)])) rfl (by rw [hml]; rfl) (argsL := [(.int v), (.int (0 : Int32))]) (rest := []) (lenOf pd_1 rfl) rfl (by show 2 * 0 + _ ≤ _; exact Nat.le_of_eq rfl) (hb hby at_25) (fun _ _ => ⟨rfl, e2, (by decide : 0 + 0 ≤ _), (by decide : 0 + 0 ≤ _)⟩)
    dsimp only [Pt.U, Pt.locs, Pt.cells, Pt.slots] at X5 l5 y5 z5 st5 hQ5
    subst l5 y5 z5
    obtain ⟨rfl, N5q, e5⟩ := hQ5
    have N5 := Fr.app N2 N5q
    have pre6 : ∀ t, Steps p.tables e below (T5.setTop (mkF m 33 #[.val (.int p0), .val (.int p1), .val (.int (0 : Int32)), .val (.int v), .val (.int v), .val (.int (endsV v (0 : Int32))), .unset, .unset] [(.int (10 : Int32)), (.int v)])) t → Steps p.tables e below (s₁.setTop (entryFrame m #[(.int p0), (.int p1)] maxLocals)) t := fun t kt => pre4 t (by
        show Steps p.tables e below (T2.setTop (mkF m 22 #[.val (.int p0), .val (.int p1), .val (.int (0 : Int32)), .val (.int v), .val (.int v), .unset, .unset, .unset] [])) _
        refine XS.iload X2.here hx rfl (hb hby at_22) rfl ?_
        show Steps p.tables e below (T2.setTop (mkF m 24 #[.val (.int p0), .val (.int p1), .val (.int (0 : Int32)), .val (.int v), .val (.int v), .unset, .unset, .unset] [(.int v)])) _
        refine XS.iloadN X2.here hx rfl (hb hby at_24) rfl ?_
        show Steps p.tables e below (T2.setTop (mkF m 25 #[.val (.int p0), .val (.int p1), .val (.int (0 : Int32)), .val (.int v), .val (.int v), .unset, .unset, .unset] [(.int (0 : Int32)), (.int v)])) _
        refine st5 _ ?_
        show Steps p.tables e below (T5.setTop (mkF m 28 #[.val (.int p0), .val (.int p1), .val (.int (0 : Int32)), .val (.int v), .val (.int v), .unset, .unset, .unset] [(.int (endsV v (0 : Int32)))])) _
        refine XS.istore X5.here hx rfl (hb hby at_28) rfl (l' := #[.val (.int p0), .val (.int p1), .val (.int (0 : Int32)), .val (.int v), .val (.int v), .val (.int (endsV v (0 : Int32))), .unset, .unset]) rfl ?_
        show Steps p.tables e below (T5.setTop (mkF m 30 #[.val (.int p0), .val (.int p1), .val (.int (0 : Int32)), .val (.int v), .val (.int v), .val (.int (endsV v (0 : Int32))), .unset, .unset] [])) _
        refine XS.iloadN X5.here hx rfl (hb hby at_30) rfl ?_
        show Steps p.tables e below (T5.setTop (mkF m 31 #[.val (.int p0), .val (.int p1), .val (.int (0 : Int32)), .val (.int v), .val (.int v), .val (.int (endsV v (0 : Int32))), .unset, .unset] [(.int v)])) _
        refine XS.bipush X5.here hx rfl (hb hby at_31) ?_
        exact kt)
    by_cases hc33 : v = (10 : Int32)
    · obtain ⟨_, _, ⟨T7, L7, k7, n7⟩, -, X7, ⟨Lc7, hQ7, l7, y7, z7⟩, st7⟩ := Jvm.LawKit.callS X5 hx (y := (⟨"com/example/inked_rows/inkedrows/xml/Lines", "endsLine", "(CZ)Z"⟩ : MethodName)) hown (mvT hZ (hw _ (List.mem_of_getElem? (i := 4) rfl))) (mvT hZ (hw _ (List.mem_of_getElem? (i := 5) rfl))) (mvT hZ (hw _ (List.mem_of_getElem? (i := 6) rfl))) (mvT hZ (hw _ (List.mem_of_getElem? (i := 7) rfl))) (by decide) (backOf (W := 0) (rm2 l Z a0 hw [] v (0 : Int32) h0 n0 Z0 ) hZ (hw _ (List.mem_of_getElem? (i := 7) rfl)) (hw _ (List.mem_of_getElem? (i := 6) rfl)) (by decide) (by decide)) (g := (mkF m 74 #[.val (.int p0), .val (.int p1), .val (.int (0 : Int32)), .val (.int v), .val (.int v), .val (.int (endsV v (0 : Int32))), .val (.int (1 : Int32)), .unset] [(.int (0 : Int32)), (.int v)])) rfl (by rw [hml]; rfl) (argsL := [(.int v), (.int (0 : Int32))]) (rest := []) (lenOf pd_1 rfl) rfl (by show 2 * 0 + _ ≤ _; exact Nat.le_of_eq rfl) (hb hby at_74) (fun _ _ => ⟨rfl, e5, (by decide : 0 + 0 ≤ _), (by decide : 0 + 0 ≤ _)⟩)
      dsimp only [Pt.U, Pt.locs, Pt.cells, Pt.slots] at X7 l7 y7 z7 st7 hQ7
      subst l7 y7 z7
      obtain ⟨rfl, N7q, e7⟩ := hQ7
      have N7 := Fr.app N5 N7q
      obtain ⟨_, _, ⟨T8, L8, k8, n8⟩, -, X8, ⟨Lc8, hQ8, l8, y8, z8⟩, st8⟩ := Jvm.LawKit.callS X7 hx (y := (⟨"com/example/inked_rows/inkedrows/xml/Lines", "endsLine", "(CZ)Z"⟩ : MethodName)) hown (mvT hZ (hw _ (List.mem_of_getElem? (i := 4) rfl))) (mvT hZ (hw _ (List.mem_of_getElem? (i := 5) rfl))) (mvT hZ (hw _ (List.mem_of_getElem? (i := 6) rfl))) (mvT hZ (hw _ (List.mem_of_getElem? (i := 7) rfl))) (by decide) (backOf (W := 0) (rm2 l Z a0 hw [] v (1 : Int32) h0 n0 Z0 ) hZ (hw _ (List.mem_of_getElem? (i := 7) rfl)) (hw _ (List.mem_of_getElem? (i := 6) rfl)) (by decide) (by decide)) (g := (mkF m 83 #[.val (.int p0), .val (.int p1), .val (.int (0 : Int32)), .val (.int v), .val (.int v), .val (.int (endsV v (0 : Int32))), .val (.int (1 : Int32)), .unset] [(.int (1 : Int32)), (.int v)])) rfl (by rw [hml]; rfl) (argsL := [(.int v), (.int (1 : Int32))]) (rest := []) (lenOf pd_1 rfl) rfl (by show 2 * 0 + _ ≤ _; exact Nat.le_of_eq rfl) (hb hby at_83) (fun _ _ => ⟨rfl, e7, (by decide : 0 + 0 ≤ _), (by decide : 0 + 0 ≤ _)⟩)
      dsimp only [Pt.U, Pt.locs, Pt.cells, Pt.slots] at X8 l8 y8 z8 st8 hQ8
      subst l8 y8 z8
      obtain ⟨rfl, N8q, e8⟩ := hQ8
      have N8 := Fr.app N7 N8q
      obtain ⟨fs, hr, hrun, hended, hW, hsame⟩ := X8.leave (v := some (.int (1 : Int32))) (fun h => by rw [Bd.returns] at h; cases h)
      refine ⟨_, _, pre6 _ ?_, hrun, hended, _, _, rfl, ?_, ⟨_, rfl⟩, hW, hsame.mono (by decide) (by decide)⟩
      · show Steps p.tables e below (T5.setTop (mkF m 33 #[.val (.int p0), .val (.int p1), .val (.int (0 : Int32)), .val (.int v), .val (.int v), .val (.int (endsV v (0 : Int32))), .unset, .unset] [(.int (10 : Int32)), (.int v)])) _
        refine XS.icmpYes X5.here hx rfl (pc0 := 33) (pc' := 42) rfl (hb hby at_33) rfl (teq (show v = (10 : Int32) from hc33)).1 (by decide) (by decide) ?_
        show Steps p.tables e below (T5.setTop (mkF m 42 #[.val (.int p0), .val (.int p1), .val (.int (0 : Int32)), .val (.int v), .val (.int v), .val (.int (endsV v (0 : Int32))), .unset, .unset] [])) _
        refine XS.iconst X5.here hx rfl (hb hby at_42) ?_
        show Steps p.tables e below (T5.setTop (mkF m 43 #[.val (.int p0), .val (.int p1), .val (.int (0 : Int32)), .val (.int v), .val (.int v), .val (.int (endsV v (0 : Int32))), .unset, .unset] [(.int (1 : Int32))])) _
        refine XS.istore X5.here hx rfl (hb hby at_43) rfl (l' := #[.val (.int p0), .val (.int p1), .val (.int (0 : Int32)), .val (.int v), .val (.int v), .val (.int (endsV v (0 : Int32))), .val (.int (1 : Int32)), .unset]) rfl ?_
        show Steps p.tables e below (T5.setTop (mkF m 45 #[.val (.int p0), .val (.int p1), .val (.int (0 : Int32)), .val (.int v), .val (.int v), .val (.int (endsV v (0 : Int32))), .val (.int (1 : Int32)), .unset] [])) _
        refine XS.goto X5.here hx rfl (pc0 := 45) (pc' := 71) rfl (hb hby at_45) (by decide) (by decide) ?_
        show Steps p.tables e below (T5.setTop (mkF m 71 #[.val (.int p0), .val (.int p1), .val (.int (0 : Int32)), .val (.int v), .val (.int v), .val (.int (endsV v (0 : Int32))), .val (.int (1 : Int32)), .unset] [])) _
        refine XS.iload X5.here hx rfl (hb hby at_71) rfl ?_
        show Steps p.tables e below (T5.setTop (mkF m 73 #[.val (.int p0), .val (.int p1), .val (.int (0 : Int32)), .val (.int v), .val (.int v), .val (.int (endsV v (0 : Int32))), .val (.int (1 : Int32)), .unset] [(.int v)])) _
        refine XS.iconst X5.here hx rfl (hb hby at_73) ?_
        show Steps p.tables e below (T5.setTop (mkF m 74 #[.val (.int p0), .val (.int p1), .val (.int (0 : Int32)), .val (.int v), .val (.int v), .val (.int (endsV v (0 : Int32))), .val (.int (1 : Int32)), .unset] [(.int (0 : Int32)), (.int v)])) _
        refine st7 _ ?_
        show Steps p.tables e below (T7.setTop (mkF m 77 #[.val (.int p0), .val (.int p1), .val (.int (0 : Int32)), .val (.int v), .val (.int v), .val (.int (endsV v (0 : Int32))), .val (.int (1 : Int32)), .unset] [(.int (endsV v (0 : Int32)))])) _
        refine XS.ifNo X7.here hx rfl (hb hby at_77) rfl ((if0 _ _).trans (feq (show ¬ ((endsV v (0 : Int32)) = (0 : Int32)) from (by rw [hc33]; decide))).1) ?_
        show Steps p.tables e below (T7.setTop (mkF m 80 #[.val (.int p0), .val (.int p1), .val (.int (0 : Int32)), .val (.int v), .val (.int v), .val (.int (endsV v (0 : Int32))), .val (.int (1 : Int32)), .unset] [])) _
        refine XS.iload X7.here hx rfl (hb hby at_80) rfl ?_
        show Steps p.tables e below (T7.setTop (mkF m 82 #[.val (.int p0), .val (.int p1), .val (.int (0 : Int32)), .val (.int v), .val (.int v), .val (.int (endsV v (0 : Int32))), .val (.int (1 : Int32)), .unset] [(.int v)])) _
        refine XS.iconst X7.here hx rfl (hb hby at_82) ?_
        show Steps p.tables e below (T7.setTop (mkF m 83 #[.val (.int p0), .val (.int p1), .val (.int (0 : Int32)), .val (.int v), .val (.int v), .val (.int (endsV v (0 : Int32))), .val (.int (1 : Int32)), .unset] [(.int (1 : Int32)), (.int v)])) _
        refine st8 _ ?_
        show Steps p.tables e below (T8.setTop (mkF m 86 #[.val (.int p0), .val (.int p1), .val (.int (0 : Int32)), .val (.int v), .val (.int v), .val (.int (endsV v (0 : Int32))), .val (.int (1 : Int32)), .unset] [(.int (endsV v (1 : Int32)))])) _
        refine XS.ifNo X8.here hx rfl (hb hby at_86) rfl ((if0 _ _).trans (feq (show ¬ ((endsV v (1 : Int32)) = (0 : Int32)) from (by rw [hc33]; decide))).1) ?_
        show Steps p.tables e below (T8.setTop (mkF m 89 #[.val (.int p0), .val (.int p1), .val (.int (0 : Int32)), .val (.int v), .val (.int v), .val (.int (endsV v (0 : Int32))), .val (.int (1 : Int32)), .unset] [])) _
        refine XS.iconst X8.here hx rfl (hb hby at_89) ?_
        show Steps p.tables e below (T8.setTop (mkF m 90 #[.val (.int p0), .val (.int p1), .val (.int (0 : Int32)), .val (.int v), .val (.int v), .val (.int (endsV v (0 : Int32))), .val (.int (1 : Int32)), .unset] [(.int (1 : Int32))])) _
        refine XS.goto X8.here hx rfl (pc0 := 90) (pc' := 94) rfl (hb hby at_90) (by decide) (by decide) ?_
        show Steps p.tables e below (T8.setTop (mkF m 94 #[.val (.int p0), .val (.int p1), .val (.int (0 : Int32)), .val (.int v), .val (.int v), .val (.int (endsV v (0 : Int32))), .val (.int (1 : Int32)), .unset] [(.int (1 : Int32))])) _
        refine XS.istore X8.here hx rfl (hb hby at_94) rfl (l' := #[.val (.int p0), .val (.int p1), .val (.int (0 : Int32)), .val (.int v), .val (.int v), .val (.int (endsV v (0 : Int32))), .val (.int (1 : Int32)), .val (.int (1 : Int32))]) rfl ?_
        show Steps p.tables e below (T8.setTop (mkF m 96 #[.val (.int p0), .val (.int p1), .val (.int (0 : Int32)), .val (.int v), .val (.int v), .val (.int (endsV v (0 : Int32))), .val (.int (1 : Int32)), .val (.int (1 : Int32))] [])) _
        refine XS.iload X8.here hx rfl (hb hby at_96) rfl ?_
        show Steps p.tables e below (T8.setTop (mkF m 98 #[.val (.int p0), .val (.int p1), .val (.int (0 : Int32)), .val (.int v), .val (.int v), .val (.int (endsV v (0 : Int32))), .val (.int (1 : Int32)), .val (.int (1 : Int32))] [(.int (endsV v (0 : Int32)))])) _
        refine XS.iload X8.here hx rfl (hb hby at_98) rfl ?_
        show Steps p.tables e below (T8.setTop (mkF m 100 #[.val (.int p0), .val (.int p1), .val (.int (0 : Int32)), .val (.int v), .val (.int v), .val (.int (endsV v (0 : Int32))), .val (.int (1 : Int32)), .val (.int (1 : Int32))] [(.int (1 : Int32)), (.int (endsV v (0 : Int32)))])) _
        refine XS.icmpNo X8.here hx rfl (hb hby at_100) rfl (teq (show (endsV v (0 : Int32)) = (1 : Int32) from (by rw [hc33]; decide))).2 ?_
        show Steps p.tables e below (T8.setTop (mkF m 103 #[.val (.int p0), .val (.int p1), .val (.int (0 : Int32)), .val (.int v), .val (.int v), .val (.int (endsV v (0 : Int32))), .val (.int (1 : Int32)), .val (.int (1 : Int32))] [])) _
        refine XS.iload X8.here hx rfl (hb hby at_103) rfl ?_
        show Steps p.tables e below (T8.setTop (mkF m 105 #[.val (.int p0), .val (.int p1), .val (.int (0 : Int32)), .val (.int v), .val (.int v), .val (.int (endsV v (0 : Int32))), .val (.int (1 : Int32)), .val (.int (1 : Int32))] [(.int (1 : Int32))])) _
        refine XS.ifNo X8.here hx rfl (hb hby at_105) rfl ((if0 _ _).trans (feq (show ¬ ((1 : Int32) = (0 : Int32)) from (by decide))).1) ?_
        show Steps p.tables e below (T8.setTop (mkF m 108 #[.val (.int p0), .val (.int p1), .val (.int (0 : Int32)), .val (.int v), .val (.int v), .val (.int (endsV v (0 : Int32))), .val (.int (1 : Int32)), .val (.int (1 : Int32))] [])) _
        refine XS.iconst X8.here hx rfl (hb hby at_108) ?_
        show Steps p.tables e below (T8.setTop (mkF m 109 #[.val (.int p0), .val (.int p1), .val (.int (0 : Int32)), .val (.int v), .val (.int v), .val (.int (endsV v (0 : Int32))), .val (.int (1 : Int32)), .val (.int (1 : Int32))] [(.int (1 : Int32))])) _
        refine XS.goto X8.here hx rfl (pc0 := 109) (pc' := 113) rfl (hb hby at_109) (by decide) (by decide) ?_
        show Steps p.tables e below (T8.setTop (mkF m 113 #[.val (.int p0), .val (.int p1), .val (.int (0 : Int32)), .val (.int v), .val (.int v), .val (.int (endsV v (0 : Int32))), .val (.int (1 : Int32)), .val (.int (1 : Int32))] [(.int (1 : Int32))])) _
        exact retN X8 hx (t := .boolean) Bd.returns (by simp) (hb hby at_113) hr
      · show Q0 h0 n0 _ T8.heap _
        rw [e8]
        exact ⟨rfl, N8⟩
    · have pre9 : ∀ t, Steps p.tables e below (T5.setTop (mkF m 39 #[.val (.int p0), .val (.int p1), .val (.int (0 : Int32)), .val (.int v), .val (.int v), .val (.int (endsV v (0 : Int32))), .unset, .unset] [(.int (13 : Int32)), (.int v)])) t → Steps p.tables e below (s₁.setTop (entryFrame m #[(.int p0), (.int p1)] maxLocals)) t := fun t kt => pre6 t (by
          show Steps p.tables e below (T5.setTop (mkF m 33 #[.val (.int p0), .val (.int p1), .val (.int (0 : Int32)), .val (.int v), .val (.int v), .val (.int (endsV v (0 : Int32))), .unset, .unset] [(.int (10 : Int32)), (.int v)])) _
          refine XS.icmpNo X5.here hx rfl (hb hby at_33) rfl (feq (show ¬ (v = (10 : Int32)) from hc33)).1 ?_
          show Steps p.tables e below (T5.setTop (mkF m 36 #[.val (.int p0), .val (.int p1), .val (.int (0 : Int32)), .val (.int v), .val (.int v), .val (.int (endsV v (0 : Int32))), .unset, .unset] [])) _
          refine XS.iloadN X5.here hx rfl (hb hby at_36) rfl ?_
          show Steps p.tables e below (T5.setTop (mkF m 37 #[.val (.int p0), .val (.int p1), .val (.int (0 : Int32)), .val (.int v), .val (.int v), .val (.int (endsV v (0 : Int32))), .unset, .unset] [(.int v)])) _
          refine XS.bipush X5.here hx rfl (hb hby at_37) ?_
          exact kt)
      by_cases hc39 : v = (13 : Int32)
      · obtain ⟨_, _, ⟨T10, L10, k10, n10⟩, -, X10, ⟨Lc10, hQ10, l10, y10, z10⟩, st10⟩ := Jvm.LawKit.callS X5 hx (y := (⟨"com/example/inked_rows/inkedrows/xml/Lines", "endsLine", "(CZ)Z"⟩ : MethodName)) hown (mvT hZ (hw _ (List.mem_of_getElem? (i := 4) rfl))) (mvT hZ (hw _ (List.mem_of_getElem? (i := 5) rfl))) (mvT hZ (hw _ (List.mem_of_getElem? (i := 6) rfl))) (mvT hZ (hw _ (List.mem_of_getElem? (i := 7) rfl))) (by decide) (backOf (W := 0) (rm2 l Z a0 hw [] v (0 : Int32) h0 n0 Z0 ) hZ (hw _ (List.mem_of_getElem? (i := 7) rfl)) (hw _ (List.mem_of_getElem? (i := 6) rfl)) (by decide) (by decide)) (g := (mkF m 74 #[.val (.int p0), .val (.int p1), .val (.int (0 : Int32)), .val (.int v), .val (.int v), .val (.int (endsV v (0 : Int32))), .val (.int (1 : Int32)), .unset] [(.int (0 : Int32)), (.int v)])) rfl (by rw [hml]; rfl) (argsL := [(.int v), (.int (0 : Int32))]) (rest := []) (lenOf pd_1 rfl) rfl (by show 2 * 0 + _ ≤ _; exact Nat.le_of_eq rfl) (hb hby at_74) (fun _ _ => ⟨rfl, e5, (by decide : 0 + 0 ≤ _), (by decide : 0 + 0 ≤ _)⟩)
        dsimp only [Pt.U, Pt.locs, Pt.cells, Pt.slots] at X10 l10 y10 z10 st10 hQ10
        subst l10 y10 z10
        obtain ⟨rfl, N10q, e10⟩ := hQ10
        have N10 := Fr.app N5 N10q
        obtain ⟨_, _, ⟨T11, L11, k11, n11⟩, -, X11, ⟨Lc11, hQ11, l11, y11, z11⟩, st11⟩ := Jvm.LawKit.callS X10 hx (y := (⟨"com/example/inked_rows/inkedrows/xml/Lines", "endsLine", "(CZ)Z"⟩ : MethodName)) hown (mvT hZ (hw _ (List.mem_of_getElem? (i := 4) rfl))) (mvT hZ (hw _ (List.mem_of_getElem? (i := 5) rfl))) (mvT hZ (hw _ (List.mem_of_getElem? (i := 6) rfl))) (mvT hZ (hw _ (List.mem_of_getElem? (i := 7) rfl))) (by decide) (backOf (W := 0) (rm2 l Z a0 hw [] v (1 : Int32) h0 n0 Z0 ) hZ (hw _ (List.mem_of_getElem? (i := 7) rfl)) (hw _ (List.mem_of_getElem? (i := 6) rfl)) (by decide) (by decide)) (g := (mkF m 83 #[.val (.int p0), .val (.int p1), .val (.int (0 : Int32)), .val (.int v), .val (.int v), .val (.int (endsV v (0 : Int32))), .val (.int (1 : Int32)), .unset] [(.int (1 : Int32)), (.int v)])) rfl (by rw [hml]; rfl) (argsL := [(.int v), (.int (1 : Int32))]) (rest := []) (lenOf pd_1 rfl) rfl (by show 2 * 0 + _ ≤ _; exact Nat.le_of_eq rfl) (hb hby at_83) (fun _ _ => ⟨rfl, e10, (by decide : 0 + 0 ≤ _), (by decide : 0 + 0 ≤ _)⟩)
        dsimp only [Pt.U, Pt.locs, Pt.cells, Pt.slots] at X11 l11 y11 z11 st11 hQ11
        subst l11 y11 z11
        obtain ⟨rfl, N11q, e11⟩ := hQ11
        have N11 := Fr.app N10 N11q
        obtain ⟨fs, hr, hrun, hended, hW, hsame⟩ := X11.leave (v := some (.int (1 : Int32))) (fun h => by rw [Bd.returns] at h; cases h)
        refine ⟨_, _, pre9 _ ?_, hrun, hended, _, _, rfl, ?_, ⟨_, rfl⟩, hW, hsame.mono (by decide) (by decide)⟩
        · show Steps p.tables e below (T5.setTop (mkF m 39 #[.val (.int p0), .val (.int p1), .val (.int (0 : Int32)), .val (.int v), .val (.int v), .val (.int (endsV v (0 : Int32))), .unset, .unset] [(.int (13 : Int32)), (.int v)])) _
          refine XS.icmpNo X5.here hx rfl (hb hby at_39) rfl (teq (show v = (13 : Int32) from hc39)).2 ?_
          show Steps p.tables e below (T5.setTop (mkF m 42 #[.val (.int p0), .val (.int p1), .val (.int (0 : Int32)), .val (.int v), .val (.int v), .val (.int (endsV v (0 : Int32))), .unset, .unset] [])) _
          refine XS.iconst X5.here hx rfl (hb hby at_42) ?_
          show Steps p.tables e below (T5.setTop (mkF m 43 #[.val (.int p0), .val (.int p1), .val (.int (0 : Int32)), .val (.int v), .val (.int v), .val (.int (endsV v (0 : Int32))), .unset, .unset] [(.int (1 : Int32))])) _
          refine XS.istore X5.here hx rfl (hb hby at_43) rfl (l' := #[.val (.int p0), .val (.int p1), .val (.int (0 : Int32)), .val (.int v), .val (.int v), .val (.int (endsV v (0 : Int32))), .val (.int (1 : Int32)), .unset]) rfl ?_
          show Steps p.tables e below (T5.setTop (mkF m 45 #[.val (.int p0), .val (.int p1), .val (.int (0 : Int32)), .val (.int v), .val (.int v), .val (.int (endsV v (0 : Int32))), .val (.int (1 : Int32)), .unset] [])) _
          refine XS.goto X5.here hx rfl (pc0 := 45) (pc' := 71) rfl (hb hby at_45) (by decide) (by decide) ?_
          show Steps p.tables e below (T5.setTop (mkF m 71 #[.val (.int p0), .val (.int p1), .val (.int (0 : Int32)), .val (.int v), .val (.int v), .val (.int (endsV v (0 : Int32))), .val (.int (1 : Int32)), .unset] [])) _
          refine XS.iload X5.here hx rfl (hb hby at_71) rfl ?_
          show Steps p.tables e below (T5.setTop (mkF m 73 #[.val (.int p0), .val (.int p1), .val (.int (0 : Int32)), .val (.int v), .val (.int v), .val (.int (endsV v (0 : Int32))), .val (.int (1 : Int32)), .unset] [(.int v)])) _
          refine XS.iconst X5.here hx rfl (hb hby at_73) ?_
          show Steps p.tables e below (T5.setTop (mkF m 74 #[.val (.int p0), .val (.int p1), .val (.int (0 : Int32)), .val (.int v), .val (.int v), .val (.int (endsV v (0 : Int32))), .val (.int (1 : Int32)), .unset] [(.int (0 : Int32)), (.int v)])) _
          refine st10 _ ?_
          show Steps p.tables e below (T10.setTop (mkF m 77 #[.val (.int p0), .val (.int p1), .val (.int (0 : Int32)), .val (.int v), .val (.int v), .val (.int (endsV v (0 : Int32))), .val (.int (1 : Int32)), .unset] [(.int (endsV v (0 : Int32)))])) _
          refine XS.ifNo X10.here hx rfl (hb hby at_77) rfl ((if0 _ _).trans (feq (show ¬ ((endsV v (0 : Int32)) = (0 : Int32)) from (by rw [hc39]; decide))).1) ?_
          show Steps p.tables e below (T10.setTop (mkF m 80 #[.val (.int p0), .val (.int p1), .val (.int (0 : Int32)), .val (.int v), .val (.int v), .val (.int (endsV v (0 : Int32))), .val (.int (1 : Int32)), .unset] [])) _
          refine XS.iload X10.here hx rfl (hb hby at_80) rfl ?_
          show Steps p.tables e below (T10.setTop (mkF m 82 #[.val (.int p0), .val (.int p1), .val (.int (0 : Int32)), .val (.int v), .val (.int v), .val (.int (endsV v (0 : Int32))), .val (.int (1 : Int32)), .unset] [(.int v)])) _
          refine XS.iconst X10.here hx rfl (hb hby at_82) ?_
          show Steps p.tables e below (T10.setTop (mkF m 83 #[.val (.int p0), .val (.int p1), .val (.int (0 : Int32)), .val (.int v), .val (.int v), .val (.int (endsV v (0 : Int32))), .val (.int (1 : Int32)), .unset] [(.int (1 : Int32)), (.int v)])) _
          refine st11 _ ?_
          show Steps p.tables e below (T11.setTop (mkF m 86 #[.val (.int p0), .val (.int p1), .val (.int (0 : Int32)), .val (.int v), .val (.int v), .val (.int (endsV v (0 : Int32))), .val (.int (1 : Int32)), .unset] [(.int (endsV v (1 : Int32)))])) _
          refine XS.ifNo X11.here hx rfl (hb hby at_86) rfl ((if0 _ _).trans (feq (show ¬ ((endsV v (1 : Int32)) = (0 : Int32)) from (by rw [hc39]; decide))).1) ?_
          show Steps p.tables e below (T11.setTop (mkF m 89 #[.val (.int p0), .val (.int p1), .val (.int (0 : Int32)), .val (.int v), .val (.int v), .val (.int (endsV v (0 : Int32))), .val (.int (1 : Int32)), .unset] [])) _
          refine XS.iconst X11.here hx rfl (hb hby at_89) ?_
          show Steps p.tables e below (T11.setTop (mkF m 90 #[.val (.int p0), .val (.int p1), .val (.int (0 : Int32)), .val (.int v), .val (.int v), .val (.int (endsV v (0 : Int32))), .val (.int (1 : Int32)), .unset] [(.int (1 : Int32))])) _
          refine XS.goto X11.here hx rfl (pc0 := 90) (pc' := 94) rfl (hb hby at_90) (by decide) (by decide) ?_
          show Steps p.tables e below (T11.setTop (mkF m 94 #[.val (.int p0), .val (.int p1), .val (.int (0 : Int32)), .val (.int v), .val (.int v), .val (.int (endsV v (0 : Int32))), .val (.int (1 : Int32)), .unset] [(.int (1 : Int32))])) _
          refine XS.istore X11.here hx rfl (hb hby at_94) rfl (l' := #[.val (.int p0), .val (.int p1), .val (.int (0 : Int32)), .val (.int v), .val (.int v), .val (.int (endsV v (0 : Int32))), .val (.int (1 : Int32)), .val (.int (1 : Int32))]) rfl ?_
          show Steps p.tables e below (T11.setTop (mkF m 96 #[.val (.int p0), .val (.int p1), .val (.int (0 : Int32)), .val (.int v), .val (.int v), .val (.int (endsV v (0 : Int32))), .val (.int (1 : Int32)), .val (.int (1 : Int32))] [])) _
          refine XS.iload X11.here hx rfl (hb hby at_96) rfl ?_
          show Steps p.tables e below (T11.setTop (mkF m 98 #[.val (.int p0), .val (.int p1), .val (.int (0 : Int32)), .val (.int v), .val (.int v), .val (.int (endsV v (0 : Int32))), .val (.int (1 : Int32)), .val (.int (1 : Int32))] [(.int (endsV v (0 : Int32)))])) _
          refine XS.iload X11.here hx rfl (hb hby at_98) rfl ?_
          show Steps p.tables e below (T11.setTop (mkF m 100 #[.val (.int p0), .val (.int p1), .val (.int (0 : Int32)), .val (.int v), .val (.int v), .val (.int (endsV v (0 : Int32))), .val (.int (1 : Int32)), .val (.int (1 : Int32))] [(.int (1 : Int32)), (.int (endsV v (0 : Int32)))])) _
          refine XS.icmpNo X11.here hx rfl (hb hby at_100) rfl (teq (show (endsV v (0 : Int32)) = (1 : Int32) from (by rw [hc39]; decide))).2 ?_
          show Steps p.tables e below (T11.setTop (mkF m 103 #[.val (.int p0), .val (.int p1), .val (.int (0 : Int32)), .val (.int v), .val (.int v), .val (.int (endsV v (0 : Int32))), .val (.int (1 : Int32)), .val (.int (1 : Int32))] [])) _
          refine XS.iload X11.here hx rfl (hb hby at_103) rfl ?_
          show Steps p.tables e below (T11.setTop (mkF m 105 #[.val (.int p0), .val (.int p1), .val (.int (0 : Int32)), .val (.int v), .val (.int v), .val (.int (endsV v (0 : Int32))), .val (.int (1 : Int32)), .val (.int (1 : Int32))] [(.int (1 : Int32))])) _
          refine XS.ifNo X11.here hx rfl (hb hby at_105) rfl ((if0 _ _).trans (feq (show ¬ ((1 : Int32) = (0 : Int32)) from (by decide))).1) ?_
          show Steps p.tables e below (T11.setTop (mkF m 108 #[.val (.int p0), .val (.int p1), .val (.int (0 : Int32)), .val (.int v), .val (.int v), .val (.int (endsV v (0 : Int32))), .val (.int (1 : Int32)), .val (.int (1 : Int32))] [])) _
          refine XS.iconst X11.here hx rfl (hb hby at_108) ?_
          show Steps p.tables e below (T11.setTop (mkF m 109 #[.val (.int p0), .val (.int p1), .val (.int (0 : Int32)), .val (.int v), .val (.int v), .val (.int (endsV v (0 : Int32))), .val (.int (1 : Int32)), .val (.int (1 : Int32))] [(.int (1 : Int32))])) _
          refine XS.goto X11.here hx rfl (pc0 := 109) (pc' := 113) rfl (hb hby at_109) (by decide) (by decide) ?_
          show Steps p.tables e below (T11.setTop (mkF m 113 #[.val (.int p0), .val (.int p1), .val (.int (0 : Int32)), .val (.int v), .val (.int v), .val (.int (endsV v (0 : Int32))), .val (.int (1 : Int32)), .val (.int (1 : Int32))] [(.int (1 : Int32))])) _
          exact retN X11 hx (t := .boolean) Bd.returns (by simp) (hb hby at_113) hr
        · show Q0 h0 n0 _ T11.heap _
          rw [e11]
          exact ⟨rfl, N11⟩
      · have pre12 : ∀ t, Steps p.tables e below (T5.setTop (mkF m 52 #[.val (.int p0), .val (.int p1), .val (.int (0 : Int32)), .val (.int v), .val (.int v), .val (.int (endsV v (0 : Int32))), .unset, .unset] [(.int (133 : Int32)), (.int v)])) t → Steps p.tables e below (s₁.setTop (entryFrame m #[(.int p0), (.int p1)] maxLocals)) t := fun t kt => pre9 t (by
            show Steps p.tables e below (T5.setTop (mkF m 39 #[.val (.int p0), .val (.int p1), .val (.int (0 : Int32)), .val (.int v), .val (.int v), .val (.int (endsV v (0 : Int32))), .unset, .unset] [(.int (13 : Int32)), (.int v)])) _
            refine XS.icmpYes X5.here hx rfl (pc0 := 39) (pc' := 48) rfl (hb hby at_39) rfl (feq (show ¬ (v = (13 : Int32)) from hc39)).2 (by decide) (by decide) ?_
            show Steps p.tables e below (T5.setTop (mkF m 48 #[.val (.int p0), .val (.int p1), .val (.int (0 : Int32)), .val (.int v), .val (.int v), .val (.int (endsV v (0 : Int32))), .unset, .unset] [])) _
            refine XS.iloadN X5.here hx rfl (hb hby at_48) rfl ?_
            show Steps p.tables e below (T5.setTop (mkF m 49 #[.val (.int p0), .val (.int p1), .val (.int (0 : Int32)), .val (.int v), .val (.int v), .val (.int (endsV v (0 : Int32))), .unset, .unset] [(.int v)])) _
            refine XS.sipush X5.here hx rfl (hb hby at_49) ?_
            exact kt)
        by_cases hc52 : v = (133 : Int32)
        · obtain ⟨_, _, ⟨T13, L13, k13, n13⟩, -, X13, ⟨Lc13, hQ13, l13, y13, z13⟩, st13⟩ := Jvm.LawKit.callS X5 hx (y := (⟨"com/example/inked_rows/inkedrows/xml/Lines", "endsLine", "(CZ)Z"⟩ : MethodName)) hown (mvT hZ (hw _ (List.mem_of_getElem? (i := 4) rfl))) (mvT hZ (hw _ (List.mem_of_getElem? (i := 5) rfl))) (mvT hZ (hw _ (List.mem_of_getElem? (i := 6) rfl))) (mvT hZ (hw _ (List.mem_of_getElem? (i := 7) rfl))) (by decide) (backOf (W := 0) (rm2 l Z a0 hw [] v (0 : Int32) h0 n0 Z0 ) hZ (hw _ (List.mem_of_getElem? (i := 7) rfl)) (hw _ (List.mem_of_getElem? (i := 6) rfl)) (by decide) (by decide)) (g := (mkF m 74 #[.val (.int p0), .val (.int p1), .val (.int (0 : Int32)), .val (.int v), .val (.int v), .val (.int (endsV v (0 : Int32))), .val (.int (0 : Int32)), .unset] [(.int (0 : Int32)), (.int v)])) rfl (by rw [hml]; rfl) (argsL := [(.int v), (.int (0 : Int32))]) (rest := []) (lenOf pd_1 rfl) rfl (by show 2 * 0 + _ ≤ _; exact Nat.le_of_eq rfl) (hb hby at_74) (fun _ _ => ⟨rfl, e5, (by decide : 0 + 0 ≤ _), (by decide : 0 + 0 ≤ _)⟩)
          dsimp only [Pt.U, Pt.locs, Pt.cells, Pt.slots] at X13 l13 y13 z13 st13 hQ13
          subst l13 y13 z13
          obtain ⟨rfl, N13q, e13⟩ := hQ13
          have N13 := Fr.app N5 N13q
          obtain ⟨fs, hr, hrun, hended, hW, hsame⟩ := X13.leave (v := some (.int (1 : Int32))) (fun h => by rw [Bd.returns] at h; cases h)
          refine ⟨_, _, pre12 _ ?_, hrun, hended, _, _, rfl, ?_, ⟨_, rfl⟩, hW, hsame.mono (by decide) (by decide)⟩
          · show Steps p.tables e below (T5.setTop (mkF m 52 #[.val (.int p0), .val (.int p1), .val (.int (0 : Int32)), .val (.int v), .val (.int v), .val (.int (endsV v (0 : Int32))), .unset, .unset] [(.int (133 : Int32)), (.int v)])) _
            refine XS.icmpYes X5.here hx rfl (pc0 := 52) (pc' := 62) rfl (hb hby at_52) rfl (teq (show v = (133 : Int32) from hc52)).1 (by decide) (by decide) ?_
            show Steps p.tables e below (T5.setTop (mkF m 62 #[.val (.int p0), .val (.int p1), .val (.int (0 : Int32)), .val (.int v), .val (.int v), .val (.int (endsV v (0 : Int32))), .unset, .unset] [])) _
            refine XS.iloadN X5.here hx rfl (hb hby at_62) rfl ?_
            show Steps p.tables e below (T5.setTop (mkF m 63 #[.val (.int p0), .val (.int p1), .val (.int (0 : Int32)), .val (.int v), .val (.int v), .val (.int (endsV v (0 : Int32))), .unset, .unset] [(.int (0 : Int32))])) _
            refine XS.istore X5.here hx rfl (hb hby at_63) rfl (l' := #[.val (.int p0), .val (.int p1), .val (.int (0 : Int32)), .val (.int v), .val (.int v), .val (.int (endsV v (0 : Int32))), .val (.int (0 : Int32)), .unset]) rfl ?_
            show Steps p.tables e below (T5.setTop (mkF m 65 #[.val (.int p0), .val (.int p1), .val (.int (0 : Int32)), .val (.int v), .val (.int v), .val (.int (endsV v (0 : Int32))), .val (.int (0 : Int32)), .unset] [])) _
            refine XS.goto X5.here hx rfl (pc0 := 65) (pc' := 71) rfl (hb hby at_65) (by decide) (by decide) ?_
            show Steps p.tables e below (T5.setTop (mkF m 71 #[.val (.int p0), .val (.int p1), .val (.int (0 : Int32)), .val (.int v), .val (.int v), .val (.int (endsV v (0 : Int32))), .val (.int (0 : Int32)), .unset] [])) _
            refine XS.iload X5.here hx rfl (hb hby at_71) rfl ?_
            show Steps p.tables e below (T5.setTop (mkF m 73 #[.val (.int p0), .val (.int p1), .val (.int (0 : Int32)), .val (.int v), .val (.int v), .val (.int (endsV v (0 : Int32))), .val (.int (0 : Int32)), .unset] [(.int v)])) _
            refine XS.iconst X5.here hx rfl (hb hby at_73) ?_
            show Steps p.tables e below (T5.setTop (mkF m 74 #[.val (.int p0), .val (.int p1), .val (.int (0 : Int32)), .val (.int v), .val (.int v), .val (.int (endsV v (0 : Int32))), .val (.int (0 : Int32)), .unset] [(.int (0 : Int32)), (.int v)])) _
            refine st13 _ ?_
            show Steps p.tables e below (T13.setTop (mkF m 77 #[.val (.int p0), .val (.int p1), .val (.int (0 : Int32)), .val (.int v), .val (.int v), .val (.int (endsV v (0 : Int32))), .val (.int (0 : Int32)), .unset] [(.int (endsV v (0 : Int32)))])) _
            refine XS.ifYes X13.here hx rfl (pc0 := 77) (pc' := 89) rfl (hb hby at_77) rfl ((if0 _ _).trans (teq (show (endsV v (0 : Int32)) = (0 : Int32) from (by rw [hc52]; decide))).1) (by decide) (by decide) ?_
            show Steps p.tables e below (T13.setTop (mkF m 89 #[.val (.int p0), .val (.int p1), .val (.int (0 : Int32)), .val (.int v), .val (.int v), .val (.int (endsV v (0 : Int32))), .val (.int (0 : Int32)), .unset] [])) _
            refine XS.iconst X13.here hx rfl (hb hby at_89) ?_
            show Steps p.tables e below (T13.setTop (mkF m 90 #[.val (.int p0), .val (.int p1), .val (.int (0 : Int32)), .val (.int v), .val (.int v), .val (.int (endsV v (0 : Int32))), .val (.int (0 : Int32)), .unset] [(.int (1 : Int32))])) _
            refine XS.goto X13.here hx rfl (pc0 := 90) (pc' := 94) rfl (hb hby at_90) (by decide) (by decide) ?_
            show Steps p.tables e below (T13.setTop (mkF m 94 #[.val (.int p0), .val (.int p1), .val (.int (0 : Int32)), .val (.int v), .val (.int v), .val (.int (endsV v (0 : Int32))), .val (.int (0 : Int32)), .unset] [(.int (1 : Int32))])) _
            refine XS.istore X13.here hx rfl (hb hby at_94) rfl (l' := #[.val (.int p0), .val (.int p1), .val (.int (0 : Int32)), .val (.int v), .val (.int v), .val (.int (endsV v (0 : Int32))), .val (.int (0 : Int32)), .val (.int (1 : Int32))]) rfl ?_
            show Steps p.tables e below (T13.setTop (mkF m 96 #[.val (.int p0), .val (.int p1), .val (.int (0 : Int32)), .val (.int v), .val (.int v), .val (.int (endsV v (0 : Int32))), .val (.int (0 : Int32)), .val (.int (1 : Int32))] [])) _
            refine XS.iload X13.here hx rfl (hb hby at_96) rfl ?_
            show Steps p.tables e below (T13.setTop (mkF m 98 #[.val (.int p0), .val (.int p1), .val (.int (0 : Int32)), .val (.int v), .val (.int v), .val (.int (endsV v (0 : Int32))), .val (.int (0 : Int32)), .val (.int (1 : Int32))] [(.int (endsV v (0 : Int32)))])) _
            refine XS.iload X13.here hx rfl (hb hby at_98) rfl ?_
            show Steps p.tables e below (T13.setTop (mkF m 100 #[.val (.int p0), .val (.int p1), .val (.int (0 : Int32)), .val (.int v), .val (.int v), .val (.int (endsV v (0 : Int32))), .val (.int (0 : Int32)), .val (.int (1 : Int32))] [(.int (0 : Int32)), (.int (endsV v (0 : Int32)))])) _
            refine XS.icmpNo X13.here hx rfl (hb hby at_100) rfl (teq (show (endsV v (0 : Int32)) = (0 : Int32) from (by rw [hc52]; decide))).2 ?_
            show Steps p.tables e below (T13.setTop (mkF m 103 #[.val (.int p0), .val (.int p1), .val (.int (0 : Int32)), .val (.int v), .val (.int v), .val (.int (endsV v (0 : Int32))), .val (.int (0 : Int32)), .val (.int (1 : Int32))] [])) _
            refine XS.iload X13.here hx rfl (hb hby at_103) rfl ?_
            show Steps p.tables e below (T13.setTop (mkF m 105 #[.val (.int p0), .val (.int p1), .val (.int (0 : Int32)), .val (.int v), .val (.int v), .val (.int (endsV v (0 : Int32))), .val (.int (0 : Int32)), .val (.int (1 : Int32))] [(.int (1 : Int32))])) _
            refine XS.ifNo X13.here hx rfl (hb hby at_105) rfl ((if0 _ _).trans (feq (show ¬ ((1 : Int32) = (0 : Int32)) from (by decide))).1) ?_
            show Steps p.tables e below (T13.setTop (mkF m 108 #[.val (.int p0), .val (.int p1), .val (.int (0 : Int32)), .val (.int v), .val (.int v), .val (.int (endsV v (0 : Int32))), .val (.int (0 : Int32)), .val (.int (1 : Int32))] [])) _
            refine XS.iconst X13.here hx rfl (hb hby at_108) ?_
            show Steps p.tables e below (T13.setTop (mkF m 109 #[.val (.int p0), .val (.int p1), .val (.int (0 : Int32)), .val (.int v), .val (.int v), .val (.int (endsV v (0 : Int32))), .val (.int (0 : Int32)), .val (.int (1 : Int32))] [(.int (1 : Int32))])) _
            refine XS.goto X13.here hx rfl (pc0 := 109) (pc' := 113) rfl (hb hby at_109) (by decide) (by decide) ?_
            show Steps p.tables e below (T13.setTop (mkF m 113 #[.val (.int p0), .val (.int p1), .val (.int (0 : Int32)), .val (.int v), .val (.int v), .val (.int (endsV v (0 : Int32))), .val (.int (0 : Int32)), .val (.int (1 : Int32))] [(.int (1 : Int32))])) _
            exact retN X13 hx (t := .boolean) Bd.returns (by simp) (hb hby at_113) hr
          · show Q0 h0 n0 _ T13.heap _
            rw [e13]
            exact ⟨rfl, N13⟩
        · have pre14 : ∀ t, Steps p.tables e below (T5.setTop (mkF m 59 #[.val (.int p0), .val (.int p1), .val (.int (0 : Int32)), .val (.int v), .val (.int v), .val (.int (endsV v (0 : Int32))), .unset, .unset] [(.int (8232 : Int32)), (.int v)])) t → Steps p.tables e below (s₁.setTop (entryFrame m #[(.int p0), (.int p1)] maxLocals)) t := fun t kt => pre12 t (by
              show Steps p.tables e below (T5.setTop (mkF m 52 #[.val (.int p0), .val (.int p1), .val (.int (0 : Int32)), .val (.int v), .val (.int v), .val (.int (endsV v (0 : Int32))), .unset, .unset] [(.int (133 : Int32)), (.int v)])) _
              refine XS.icmpNo X5.here hx rfl (hb hby at_52) rfl (feq (show ¬ (v = (133 : Int32)) from hc52)).1 ?_
              show Steps p.tables e below (T5.setTop (mkF m 55 #[.val (.int p0), .val (.int p1), .val (.int (0 : Int32)), .val (.int v), .val (.int v), .val (.int (endsV v (0 : Int32))), .unset, .unset] [])) _
              refine XS.iloadN X5.here hx rfl (hb hby at_55) rfl ?_
              show Steps p.tables e below (T5.setTop (mkF m 56 #[.val (.int p0), .val (.int p1), .val (.int (0 : Int32)), .val (.int v), .val (.int v), .val (.int (endsV v (0 : Int32))), .unset, .unset] [(.int v)])) _
              refine XS.sipush X5.here hx rfl (hb hby at_56) ?_
              exact kt)
          by_cases hc59 : v = (8232 : Int32)
          · obtain ⟨_, _, ⟨T15, L15, k15, n15⟩, -, X15, ⟨Lc15, hQ15, l15, y15, z15⟩, st15⟩ := Jvm.LawKit.callS X5 hx (y := (⟨"com/example/inked_rows/inkedrows/xml/Lines", "endsLine", "(CZ)Z"⟩ : MethodName)) hown (mvT hZ (hw _ (List.mem_of_getElem? (i := 4) rfl))) (mvT hZ (hw _ (List.mem_of_getElem? (i := 5) rfl))) (mvT hZ (hw _ (List.mem_of_getElem? (i := 6) rfl))) (mvT hZ (hw _ (List.mem_of_getElem? (i := 7) rfl))) (by decide) (backOf (W := 0) (rm2 l Z a0 hw [] v (0 : Int32) h0 n0 Z0 ) hZ (hw _ (List.mem_of_getElem? (i := 7) rfl)) (hw _ (List.mem_of_getElem? (i := 6) rfl)) (by decide) (by decide)) (g := (mkF m 74 #[.val (.int p0), .val (.int p1), .val (.int (0 : Int32)), .val (.int v), .val (.int v), .val (.int (endsV v (0 : Int32))), .val (.int (0 : Int32)), .unset] [(.int (0 : Int32)), (.int v)])) rfl (by rw [hml]; rfl) (argsL := [(.int v), (.int (0 : Int32))]) (rest := []) (lenOf pd_1 rfl) rfl (by show 2 * 0 + _ ≤ _; exact Nat.le_of_eq rfl) (hb hby at_74) (fun _ _ => ⟨rfl, e5, (by decide : 0 + 0 ≤ _), (by decide : 0 + 0 ≤ _)⟩)
            dsimp only [Pt.U, Pt.locs, Pt.cells, Pt.slots] at X15 l15 y15 z15 st15 hQ15
            subst l15 y15 z15
            obtain ⟨rfl, N15q, e15⟩ := hQ15
            have N15 := Fr.app N5 N15q
            obtain ⟨fs, hr, hrun, hended, hW, hsame⟩ := X15.leave (v := some (.int (1 : Int32))) (fun h => by rw [Bd.returns] at h; cases h)
            refine ⟨_, _, pre14 _ ?_, hrun, hended, _, _, rfl, ?_, ⟨_, rfl⟩, hW, hsame.mono (by decide) (by decide)⟩
            · show Steps p.tables e below (T5.setTop (mkF m 59 #[.val (.int p0), .val (.int p1), .val (.int (0 : Int32)), .val (.int v), .val (.int v), .val (.int (endsV v (0 : Int32))), .unset, .unset] [(.int (8232 : Int32)), (.int v)])) _
              refine XS.icmpNo X5.here hx rfl (hb hby at_59) rfl (teq (show v = (8232 : Int32) from hc59)).2 ?_
              show Steps p.tables e below (T5.setTop (mkF m 62 #[.val (.int p0), .val (.int p1), .val (.int (0 : Int32)), .val (.int v), .val (.int v), .val (.int (endsV v (0 : Int32))), .unset, .unset] [])) _
              refine XS.iloadN X5.here hx rfl (hb hby at_62) rfl ?_
              show Steps p.tables e below (T5.setTop (mkF m 63 #[.val (.int p0), .val (.int p1), .val (.int (0 : Int32)), .val (.int v), .val (.int v), .val (.int (endsV v (0 : Int32))), .unset, .unset] [(.int (0 : Int32))])) _
              refine XS.istore X5.here hx rfl (hb hby at_63) rfl (l' := #[.val (.int p0), .val (.int p1), .val (.int (0 : Int32)), .val (.int v), .val (.int v), .val (.int (endsV v (0 : Int32))), .val (.int (0 : Int32)), .unset]) rfl ?_
              show Steps p.tables e below (T5.setTop (mkF m 65 #[.val (.int p0), .val (.int p1), .val (.int (0 : Int32)), .val (.int v), .val (.int v), .val (.int (endsV v (0 : Int32))), .val (.int (0 : Int32)), .unset] [])) _
              refine XS.goto X5.here hx rfl (pc0 := 65) (pc' := 71) rfl (hb hby at_65) (by decide) (by decide) ?_
              show Steps p.tables e below (T5.setTop (mkF m 71 #[.val (.int p0), .val (.int p1), .val (.int (0 : Int32)), .val (.int v), .val (.int v), .val (.int (endsV v (0 : Int32))), .val (.int (0 : Int32)), .unset] [])) _
              refine XS.iload X5.here hx rfl (hb hby at_71) rfl ?_
              show Steps p.tables e below (T5.setTop (mkF m 73 #[.val (.int p0), .val (.int p1), .val (.int (0 : Int32)), .val (.int v), .val (.int v), .val (.int (endsV v (0 : Int32))), .val (.int (0 : Int32)), .unset] [(.int v)])) _
              refine XS.iconst X5.here hx rfl (hb hby at_73) ?_
              show Steps p.tables e below (T5.setTop (mkF m 74 #[.val (.int p0), .val (.int p1), .val (.int (0 : Int32)), .val (.int v), .val (.int v), .val (.int (endsV v (0 : Int32))), .val (.int (0 : Int32)), .unset] [(.int (0 : Int32)), (.int v)])) _
              refine st15 _ ?_
              show Steps p.tables e below (T15.setTop (mkF m 77 #[.val (.int p0), .val (.int p1), .val (.int (0 : Int32)), .val (.int v), .val (.int v), .val (.int (endsV v (0 : Int32))), .val (.int (0 : Int32)), .unset] [(.int (endsV v (0 : Int32)))])) _
              refine XS.ifYes X15.here hx rfl (pc0 := 77) (pc' := 89) rfl (hb hby at_77) rfl ((if0 _ _).trans (teq (show (endsV v (0 : Int32)) = (0 : Int32) from (by rw [hc59]; decide))).1) (by decide) (by decide) ?_
              show Steps p.tables e below (T15.setTop (mkF m 89 #[.val (.int p0), .val (.int p1), .val (.int (0 : Int32)), .val (.int v), .val (.int v), .val (.int (endsV v (0 : Int32))), .val (.int (0 : Int32)), .unset] [])) _
              refine XS.iconst X15.here hx rfl (hb hby at_89) ?_
              show Steps p.tables e below (T15.setTop (mkF m 90 #[.val (.int p0), .val (.int p1), .val (.int (0 : Int32)), .val (.int v), .val (.int v), .val (.int (endsV v (0 : Int32))), .val (.int (0 : Int32)), .unset] [(.int (1 : Int32))])) _
              refine XS.goto X15.here hx rfl (pc0 := 90) (pc' := 94) rfl (hb hby at_90) (by decide) (by decide) ?_
              show Steps p.tables e below (T15.setTop (mkF m 94 #[.val (.int p0), .val (.int p1), .val (.int (0 : Int32)), .val (.int v), .val (.int v), .val (.int (endsV v (0 : Int32))), .val (.int (0 : Int32)), .unset] [(.int (1 : Int32))])) _
              refine XS.istore X15.here hx rfl (hb hby at_94) rfl (l' := #[.val (.int p0), .val (.int p1), .val (.int (0 : Int32)), .val (.int v), .val (.int v), .val (.int (endsV v (0 : Int32))), .val (.int (0 : Int32)), .val (.int (1 : Int32))]) rfl ?_
              show Steps p.tables e below (T15.setTop (mkF m 96 #[.val (.int p0), .val (.int p1), .val (.int (0 : Int32)), .val (.int v), .val (.int v), .val (.int (endsV v (0 : Int32))), .val (.int (0 : Int32)), .val (.int (1 : Int32))] [])) _
              refine XS.iload X15.here hx rfl (hb hby at_96) rfl ?_
              show Steps p.tables e below (T15.setTop (mkF m 98 #[.val (.int p0), .val (.int p1), .val (.int (0 : Int32)), .val (.int v), .val (.int v), .val (.int (endsV v (0 : Int32))), .val (.int (0 : Int32)), .val (.int (1 : Int32))] [(.int (endsV v (0 : Int32)))])) _
              refine XS.iload X15.here hx rfl (hb hby at_98) rfl ?_
              show Steps p.tables e below (T15.setTop (mkF m 100 #[.val (.int p0), .val (.int p1), .val (.int (0 : Int32)), .val (.int v), .val (.int v), .val (.int (endsV v (0 : Int32))), .val (.int (0 : Int32)), .val (.int (1 : Int32))] [(.int (0 : Int32)), (.int (endsV v (0 : Int32)))])) _
              refine XS.icmpNo X15.here hx rfl (hb hby at_100) rfl (teq (show (endsV v (0 : Int32)) = (0 : Int32) from (by rw [hc59]; decide))).2 ?_
              show Steps p.tables e below (T15.setTop (mkF m 103 #[.val (.int p0), .val (.int p1), .val (.int (0 : Int32)), .val (.int v), .val (.int v), .val (.int (endsV v (0 : Int32))), .val (.int (0 : Int32)), .val (.int (1 : Int32))] [])) _
              refine XS.iload X15.here hx rfl (hb hby at_103) rfl ?_
              show Steps p.tables e below (T15.setTop (mkF m 105 #[.val (.int p0), .val (.int p1), .val (.int (0 : Int32)), .val (.int v), .val (.int v), .val (.int (endsV v (0 : Int32))), .val (.int (0 : Int32)), .val (.int (1 : Int32))] [(.int (1 : Int32))])) _
              refine XS.ifNo X15.here hx rfl (hb hby at_105) rfl ((if0 _ _).trans (feq (show ¬ ((1 : Int32) = (0 : Int32)) from (by decide))).1) ?_
              show Steps p.tables e below (T15.setTop (mkF m 108 #[.val (.int p0), .val (.int p1), .val (.int (0 : Int32)), .val (.int v), .val (.int v), .val (.int (endsV v (0 : Int32))), .val (.int (0 : Int32)), .val (.int (1 : Int32))] [])) _
              refine XS.iconst X15.here hx rfl (hb hby at_108) ?_
              show Steps p.tables e below (T15.setTop (mkF m 109 #[.val (.int p0), .val (.int p1), .val (.int (0 : Int32)), .val (.int v), .val (.int v), .val (.int (endsV v (0 : Int32))), .val (.int (0 : Int32)), .val (.int (1 : Int32))] [(.int (1 : Int32))])) _
              refine XS.goto X15.here hx rfl (pc0 := 109) (pc' := 113) rfl (hb hby at_109) (by decide) (by decide) ?_
              show Steps p.tables e below (T15.setTop (mkF m 113 #[.val (.int p0), .val (.int p1), .val (.int (0 : Int32)), .val (.int v), .val (.int v), .val (.int (endsV v (0 : Int32))), .val (.int (0 : Int32)), .val (.int (1 : Int32))] [(.int (1 : Int32))])) _
              exact retN X15 hx (t := .boolean) Bd.returns (by simp) (hb hby at_113) hr
            · show Q0 h0 n0 _ T15.heap _
              rw [e15]
              exact ⟨rfl, N15⟩
          · obtain ⟨_, _, ⟨T16, L16, k16, n16⟩, -, X16, ⟨Lc16, hQ16, l16, y16, z16⟩, st16⟩ := Jvm.LawKit.callS X5 hx (y := (⟨"com/example/inked_rows/inkedrows/xml/Lines", "endsLine", "(CZ)Z"⟩ : MethodName)) hown (mvT hZ (hw _ (List.mem_of_getElem? (i := 4) rfl))) (mvT hZ (hw _ (List.mem_of_getElem? (i := 5) rfl))) (mvT hZ (hw _ (List.mem_of_getElem? (i := 6) rfl))) (mvT hZ (hw _ (List.mem_of_getElem? (i := 7) rfl))) (by decide) (backOf (W := 0) (rm2 l Z a0 hw [] v (0 : Int32) h0 n0 Z0 ) hZ (hw _ (List.mem_of_getElem? (i := 7) rfl)) (hw _ (List.mem_of_getElem? (i := 6) rfl)) (by decide) (by decide)) (g := (mkF m 74 #[.val (.int p0), .val (.int p1), .val (.int (0 : Int32)), .val (.int v), .val (.int v), .val (.int (endsV v (0 : Int32))), .val (.int (0 : Int32)), .unset] [(.int (0 : Int32)), (.int v)])) rfl (by rw [hml]; rfl) (argsL := [(.int v), (.int (0 : Int32))]) (rest := []) (lenOf pd_1 rfl) rfl (by show 2 * 0 + _ ≤ _; exact Nat.le_of_eq rfl) (hb hby at_74) (fun _ _ => ⟨rfl, e5, (by decide : 0 + 0 ≤ _), (by decide : 0 + 0 ≤ _)⟩)
            dsimp only [Pt.U, Pt.locs, Pt.cells, Pt.slots] at X16 l16 y16 z16 st16 hQ16
            subst l16 y16 z16
            obtain ⟨rfl, N16q, e16⟩ := hQ16
            have N16 := Fr.app N5 N16q
            obtain ⟨fs, hr, hrun, hended, hW, hsame⟩ := X16.leave (v := some (.int (1 : Int32))) (fun h => by rw [Bd.returns] at h; cases h)
            refine ⟨_, _, pre14 _ ?_, hrun, hended, _, _, rfl, ?_, ⟨_, rfl⟩, hW, hsame.mono (by decide) (by decide)⟩
            · show Steps p.tables e below (T5.setTop (mkF m 59 #[.val (.int p0), .val (.int p1), .val (.int (0 : Int32)), .val (.int v), .val (.int v), .val (.int (endsV v (0 : Int32))), .unset, .unset] [(.int (8232 : Int32)), (.int v)])) _
              refine XS.icmpYes X5.here hx rfl (pc0 := 59) (pc' := 68) rfl (hb hby at_59) rfl (feq (show ¬ (v = (8232 : Int32)) from hc59)).2 (by decide) (by decide) ?_
              show Steps p.tables e below (T5.setTop (mkF m 68 #[.val (.int p0), .val (.int p1), .val (.int (0 : Int32)), .val (.int v), .val (.int v), .val (.int (endsV v (0 : Int32))), .unset, .unset] [])) _
              refine XS.iconst X5.here hx rfl (hb hby at_68) ?_
              show Steps p.tables e below (T5.setTop (mkF m 69 #[.val (.int p0), .val (.int p1), .val (.int (0 : Int32)), .val (.int v), .val (.int v), .val (.int (endsV v (0 : Int32))), .unset, .unset] [(.int (0 : Int32))])) _
              refine XS.istore X5.here hx rfl (hb hby at_69) rfl (l' := #[.val (.int p0), .val (.int p1), .val (.int (0 : Int32)), .val (.int v), .val (.int v), .val (.int (endsV v (0 : Int32))), .val (.int (0 : Int32)), .unset]) rfl ?_
              show Steps p.tables e below (T5.setTop (mkF m 71 #[.val (.int p0), .val (.int p1), .val (.int (0 : Int32)), .val (.int v), .val (.int v), .val (.int (endsV v (0 : Int32))), .val (.int (0 : Int32)), .unset] [])) _
              refine XS.iload X5.here hx rfl (hb hby at_71) rfl ?_
              show Steps p.tables e below (T5.setTop (mkF m 73 #[.val (.int p0), .val (.int p1), .val (.int (0 : Int32)), .val (.int v), .val (.int v), .val (.int (endsV v (0 : Int32))), .val (.int (0 : Int32)), .unset] [(.int v)])) _
              refine XS.iconst X5.here hx rfl (hb hby at_73) ?_
              show Steps p.tables e below (T5.setTop (mkF m 74 #[.val (.int p0), .val (.int p1), .val (.int (0 : Int32)), .val (.int v), .val (.int v), .val (.int (endsV v (0 : Int32))), .val (.int (0 : Int32)), .unset] [(.int (0 : Int32)), (.int v)])) _
              refine st16 _ ?_
              show Steps p.tables e below (T16.setTop (mkF m 77 #[.val (.int p0), .val (.int p1), .val (.int (0 : Int32)), .val (.int v), .val (.int v), .val (.int (endsV v (0 : Int32))), .val (.int (0 : Int32)), .unset] [(.int (endsV v (0 : Int32)))])) _
              refine XS.ifYes X16.here hx rfl (pc0 := 77) (pc' := 89) rfl (hb hby at_77) rfl ((if0 _ _).trans (teq (show (endsV v (0 : Int32)) = (0 : Int32) from (by rw [endsV, if_neg hc39, if_neg hc33, if_pos rfl]))).1) (by decide) (by decide) ?_
              show Steps p.tables e below (T16.setTop (mkF m 89 #[.val (.int p0), .val (.int p1), .val (.int (0 : Int32)), .val (.int v), .val (.int v), .val (.int (endsV v (0 : Int32))), .val (.int (0 : Int32)), .unset] [])) _
              refine XS.iconst X16.here hx rfl (hb hby at_89) ?_
              show Steps p.tables e below (T16.setTop (mkF m 90 #[.val (.int p0), .val (.int p1), .val (.int (0 : Int32)), .val (.int v), .val (.int v), .val (.int (endsV v (0 : Int32))), .val (.int (0 : Int32)), .unset] [(.int (1 : Int32))])) _
              refine XS.goto X16.here hx rfl (pc0 := 90) (pc' := 94) rfl (hb hby at_90) (by decide) (by decide) ?_
              show Steps p.tables e below (T16.setTop (mkF m 94 #[.val (.int p0), .val (.int p1), .val (.int (0 : Int32)), .val (.int v), .val (.int v), .val (.int (endsV v (0 : Int32))), .val (.int (0 : Int32)), .unset] [(.int (1 : Int32))])) _
              refine XS.istore X16.here hx rfl (hb hby at_94) rfl (l' := #[.val (.int p0), .val (.int p1), .val (.int (0 : Int32)), .val (.int v), .val (.int v), .val (.int (endsV v (0 : Int32))), .val (.int (0 : Int32)), .val (.int (1 : Int32))]) rfl ?_
              show Steps p.tables e below (T16.setTop (mkF m 96 #[.val (.int p0), .val (.int p1), .val (.int (0 : Int32)), .val (.int v), .val (.int v), .val (.int (endsV v (0 : Int32))), .val (.int (0 : Int32)), .val (.int (1 : Int32))] [])) _
              refine XS.iload X16.here hx rfl (hb hby at_96) rfl ?_
              show Steps p.tables e below (T16.setTop (mkF m 98 #[.val (.int p0), .val (.int p1), .val (.int (0 : Int32)), .val (.int v), .val (.int v), .val (.int (endsV v (0 : Int32))), .val (.int (0 : Int32)), .val (.int (1 : Int32))] [(.int (endsV v (0 : Int32)))])) _
              refine XS.iload X16.here hx rfl (hb hby at_98) rfl ?_
              show Steps p.tables e below (T16.setTop (mkF m 100 #[.val (.int p0), .val (.int p1), .val (.int (0 : Int32)), .val (.int v), .val (.int v), .val (.int (endsV v (0 : Int32))), .val (.int (0 : Int32)), .val (.int (1 : Int32))] [(.int (0 : Int32)), (.int (endsV v (0 : Int32)))])) _
              refine XS.icmpNo X16.here hx rfl (hb hby at_100) rfl (teq (show (endsV v (0 : Int32)) = (0 : Int32) from (by rw [endsV, if_neg hc39, if_neg hc33, if_pos rfl]))).2 ?_
              show Steps p.tables e below (T16.setTop (mkF m 103 #[.val (.int p0), .val (.int p1), .val (.int (0 : Int32)), .val (.int v), .val (.int v), .val (.int (endsV v (0 : Int32))), .val (.int (0 : Int32)), .val (.int (1 : Int32))] [])) _
              refine XS.iload X16.here hx rfl (hb hby at_103) rfl ?_
              show Steps p.tables e below (T16.setTop (mkF m 105 #[.val (.int p0), .val (.int p1), .val (.int (0 : Int32)), .val (.int v), .val (.int v), .val (.int (endsV v (0 : Int32))), .val (.int (0 : Int32)), .val (.int (1 : Int32))] [(.int (1 : Int32))])) _
              refine XS.ifNo X16.here hx rfl (hb hby at_105) rfl ((if0 _ _).trans (feq (show ¬ ((1 : Int32) = (0 : Int32)) from (by decide))).1) ?_
              show Steps p.tables e below (T16.setTop (mkF m 108 #[.val (.int p0), .val (.int p1), .val (.int (0 : Int32)), .val (.int v), .val (.int v), .val (.int (endsV v (0 : Int32))), .val (.int (0 : Int32)), .val (.int (1 : Int32))] [])) _
              refine XS.iconst X16.here hx rfl (hb hby at_108) ?_
              show Steps p.tables e below (T16.setTop (mkF m 109 #[.val (.int p0), .val (.int p1), .val (.int (0 : Int32)), .val (.int v), .val (.int v), .val (.int (endsV v (0 : Int32))), .val (.int (0 : Int32)), .val (.int (1 : Int32))] [(.int (1 : Int32))])) _
              refine XS.goto X16.here hx rfl (pc0 := 109) (pc' := 113) rfl (hb hby at_109) (by decide) (by decide) ?_
              show Steps p.tables e below (T16.setTop (mkF m 113 #[.val (.int p0), .val (.int p1), .val (.int (0 : Int32)), .val (.int v), .val (.int v), .val (.int (endsV v (0 : Int32))), .val (.int (0 : Int32)), .val (.int (1 : Int32))] [(.int (1 : Int32))])) _
              exact retN X16 hx (t := .boolean) Bd.returns (by simp) (hb hby at_113) hr
            · show Q0 h0 n0 _ T16.heap _
              rw [e16]
              exact ⟨rfl, N16⟩
  · obtain ⟨_, _, ⟨T17, L17, k17, n17⟩, -, X17, ⟨Lc17, hQ17, l17, y17, z17⟩, st17⟩ := Jvm.LawKit.callS X0 hx (y := (⟨"com/example/inked_rows/inkedrows/xml/LinesEndsLinePinLaw", "pick", "(II)I"⟩ : MethodName)) hown (mvT hZ (hw _ (List.mem_of_getElem? (i := 0) rfl))) (mvT hZ (hw _ (List.mem_of_getElem? (i := 1) rfl))) (mvT hZ (hw _ (List.mem_of_getElem? (i := 2) rfl))) (mvT hZ (hw _ (List.mem_of_getElem? (i := 3) rfl))) (by decide) (backOf (W := 0) (rm1 l Z a0 hw [] p0 p1 h0 n0 Z0 ) hZ (hw _ (List.mem_of_getElem? (i := 3) rfl)) (hw _ (List.mem_of_getElem? (i := 2) rfl)) (by decide) (by decide)) (g := (mkF m 14 #[.val (.int p0), .val (.int p1), .val (.int (1 : Int32)), .unset, .unset, .unset, .unset, .unset] [(.int p1), (.int p0)])) rfl (by rw [hml]; rfl) (argsL := [(.int p0), (.int p1)]) (rest := []) (lenOf pd_0 rfl) rfl (by show 2 * 0 + _ ≤ _; exact Nat.le_of_eq rfl) (hb hby at_14) (fun _ _ => ⟨rfl, e0, (by decide : 0 + 0 ≤ _), (by decide : 0 + 0 ≤ _)⟩)
    dsimp only [Pt.U, Pt.locs, Pt.cells, Pt.slots] at X17 l17 y17 z17 st17 hQ17
    subst l17 y17 z17
    obtain ⟨rfl, N17q, e17⟩ := hQ17
    have N17 := Fr.app N0 N17q
    have pre18 : ∀ t, Steps p.tables e below (T17.setTop (mkF m 18 #[.val (.int p0), .val (.int p1), .val (.int (1 : Int32)), .val (.int (pickV p0 p1)), .unset, .unset, .unset, .unset] [])) t → Steps p.tables e below (s₁.setTop (entryFrame m #[(.int p0), (.int p1)] maxLocals)) t := fun t kt => pre1 t (by
        show Steps p.tables e below (s₁.setTop (mkF m 3 #[.val (.int p0), .val (.int p1), .unset, .unset, .unset, .unset, .unset, .unset] [(.int (p1 &&& (1 : Int32)))])) _
        refine XS.ifNo X0.here hx rfl (hb hby at_3) rfl ((if0 _ _).trans (feq (show ¬ ((p1 &&& (1 : Int32)) = (0 : Int32)) from hc3)).1) ?_
        show Steps p.tables e below (s₁.setTop (mkF m 6 #[.val (.int p0), .val (.int p1), .unset, .unset, .unset, .unset, .unset, .unset] [])) _
        refine XS.iconst X0.here hx rfl (hb hby at_6) ?_
        show Steps p.tables e below (s₁.setTop (mkF m 7 #[.val (.int p0), .val (.int p1), .unset, .unset, .unset, .unset, .unset, .unset] [(.int (1 : Int32))])) _
        refine XS.goto X0.here hx rfl (pc0 := 7) (pc' := 11) rfl (hb hby at_7) (by decide) (by decide) ?_
        show Steps p.tables e below (s₁.setTop (mkF m 11 #[.val (.int p0), .val (.int p1), .unset, .unset, .unset, .unset, .unset, .unset] [(.int (1 : Int32))])) _
        refine XS.istoreN X0.here hx rfl (hb hby at_11) rfl (l' := #[.val (.int p0), .val (.int p1), .val (.int (1 : Int32)), .unset, .unset, .unset, .unset, .unset]) rfl ?_
        show Steps p.tables e below (s₁.setTop (mkF m 12 #[.val (.int p0), .val (.int p1), .val (.int (1 : Int32)), .unset, .unset, .unset, .unset, .unset] [])) _
        refine XS.iloadN X0.here hx rfl (hb hby at_12) rfl ?_
        show Steps p.tables e below (s₁.setTop (mkF m 13 #[.val (.int p0), .val (.int p1), .val (.int (1 : Int32)), .unset, .unset, .unset, .unset, .unset] [(.int p0)])) _
        refine XS.iloadN X0.here hx rfl (hb hby at_13) rfl ?_
        show Steps p.tables e below (s₁.setTop (mkF m 14 #[.val (.int p0), .val (.int p1), .val (.int (1 : Int32)), .unset, .unset, .unset, .unset, .unset] [(.int p1), (.int p0)])) _
        refine st17 _ ?_
        show Steps p.tables e below (T17.setTop (mkF m 17 #[.val (.int p0), .val (.int p1), .val (.int (1 : Int32)), .unset, .unset, .unset, .unset, .unset] [(.int (pickV p0 p1))])) _
        refine XS.istoreN X17.here hx rfl (hb hby at_17) rfl (l' := #[.val (.int p0), .val (.int p1), .val (.int (1 : Int32)), .val (.int (pickV p0 p1)), .unset, .unset, .unset, .unset]) rfl ?_
        exact kt)
    obtain ⟨v, hv⟩ : ∃ z : Int32, z = (pickV p0 p1) := ⟨_, rfl⟩
    rw [← hv] at pre18
    have pre19 : ∀ t, Steps p.tables e below (T17.setTop (mkF m 22 #[.val (.int p0), .val (.int p1), .val (.int (1 : Int32)), .val (.int v), .val (.int (v.toUInt32.toUInt16.toUInt32.toInt32)), .unset, .unset, .unset] [])) t → Steps p.tables e below (s₁.setTop (entryFrame m #[(.int p0), (.int p1)] maxLocals)) t := fun t kt => pre18 t (by
        show Steps p.tables e below (T17.setTop (mkF m 18 #[.val (.int p0), .val (.int p1), .val (.int (1 : Int32)), .val (.int v), .unset, .unset, .unset, .unset] [])) _
        refine XS.iloadN X17.here hx rfl (hb hby at_18) rfl ?_
        show Steps p.tables e below (T17.setTop (mkF m 19 #[.val (.int p0), .val (.int p1), .val (.int (1 : Int32)), .val (.int v), .unset, .unset, .unset, .unset] [(.int v)])) _
        refine XS.i2c X17.here hx rfl (hb hby at_19) rfl ?_
        show Steps p.tables e below (T17.setTop (mkF m 20 #[.val (.int p0), .val (.int p1), .val (.int (1 : Int32)), .val (.int v), .unset, .unset, .unset, .unset] [(.int (v.toUInt32.toUInt16.toUInt32.toInt32))])) _
        refine XS.istore X17.here hx rfl (hb hby at_20) rfl (l' := #[.val (.int p0), .val (.int p1), .val (.int (1 : Int32)), .val (.int v), .val (.int (v.toUInt32.toUInt16.toUInt32.toInt32)), .unset, .unset, .unset]) rfl ?_
        exact kt)
    have hcv : v.toUInt32.toUInt16.toUInt32.toInt32 = v := by rw [hv]; exact own_pick_c _ _
    rw [hcv] at pre19
    obtain ⟨_, _, ⟨T20, L20, k20, n20⟩, -, X20, ⟨Lc20, hQ20, l20, y20, z20⟩, st20⟩ := Jvm.LawKit.callS X17 hx (y := (⟨"com/example/inked_rows/inkedrows/xml/Lines", "endsLine", "(CZ)Z"⟩ : MethodName)) hown (mvT hZ (hw _ (List.mem_of_getElem? (i := 4) rfl))) (mvT hZ (hw _ (List.mem_of_getElem? (i := 5) rfl))) (mvT hZ (hw _ (List.mem_of_getElem? (i := 6) rfl))) (mvT hZ (hw _ (List.mem_of_getElem? (i := 7) rfl))) (by decide) (backOf (W := 0) (rm2 l Z a0 hw [] v (1 : Int32) h0 n0 Z0 ) hZ (hw _ (List.mem_of_getElem? (i := 7) rfl)) (hw _ (List.mem_of_getElem? (i := 6) rfl)) (by decide) (by decide)) (g := (mkF m 25 #[.val (.int p0), .val (.int p1), .val (.int (1 : Int32)), .val (.int v), .val (.int v), .unset, .unset, .unset] [(.int (1 : Int32)), (.int v)])) rfl (by rw [hml]; rfl) (argsL := [(.int v), (.int (1 : Int32))]) (rest := []) (lenOf pd_1 rfl) rfl (by show 2 * 0 + _ ≤ _; exact Nat.le_of_eq rfl) (hb hby at_25) (fun _ _ => ⟨rfl, e17, (by decide : 0 + 0 ≤ _), (by decide : 0 + 0 ≤ _)⟩)
    dsimp only [Pt.U, Pt.locs, Pt.cells, Pt.slots] at X20 l20 y20 z20 st20 hQ20
    subst l20 y20 z20
    obtain ⟨rfl, N20q, e20⟩ := hQ20
    have N20 := Fr.app N17 N20q
    have pre21 : ∀ t, Steps p.tables e below (T20.setTop (mkF m 33 #[.val (.int p0), .val (.int p1), .val (.int (1 : Int32)), .val (.int v), .val (.int v), .val (.int (endsV v (1 : Int32))), .unset, .unset] [(.int (10 : Int32)), (.int v)])) t → Steps p.tables e below (s₁.setTop (entryFrame m #[(.int p0), (.int p1)] maxLocals)) t := fun t kt => pre19 t (by
        show Steps p.tables e below (T17.setTop (mkF m 22 #[.val (.int p0), .val (.int p1), .val (.int (1 : Int32)), .val (.int v), .val (.int v), .unset, .unset, .unset] [])) _
        refine XS.iload X17.here hx rfl (hb hby at_22) rfl ?_
        show Steps p.tables e below (T17.setTop (mkF m 24 #[.val (.int p0), .val (.int p1), .val (.int (1 : Int32)), .val (.int v), .val (.int v), .unset, .unset, .unset] [(.int v)])) _
        refine XS.iloadN X17.here hx rfl (hb hby at_24) rfl ?_
        show Steps p.tables e below (T17.setTop (mkF m 25 #[.val (.int p0), .val (.int p1), .val (.int (1 : Int32)), .val (.int v), .val (.int v), .unset, .unset, .unset] [(.int (1 : Int32)), (.int v)])) _
        refine st20 _ ?_
        show Steps p.tables e below (T20.setTop (mkF m 28 #[.val (.int p0), .val (.int p1), .val (.int (1 : Int32)), .val (.int v), .val (.int v), .unset, .unset, .unset] [(.int (endsV v (1 : Int32)))])) _
        refine XS.istore X20.here hx rfl (hb hby at_28) rfl (l' := #[.val (.int p0), .val (.int p1), .val (.int (1 : Int32)), .val (.int v), .val (.int v), .val (.int (endsV v (1 : Int32))), .unset, .unset]) rfl ?_
        show Steps p.tables e below (T20.setTop (mkF m 30 #[.val (.int p0), .val (.int p1), .val (.int (1 : Int32)), .val (.int v), .val (.int v), .val (.int (endsV v (1 : Int32))), .unset, .unset] [])) _
        refine XS.iloadN X20.here hx rfl (hb hby at_30) rfl ?_
        show Steps p.tables e below (T20.setTop (mkF m 31 #[.val (.int p0), .val (.int p1), .val (.int (1 : Int32)), .val (.int v), .val (.int v), .val (.int (endsV v (1 : Int32))), .unset, .unset] [(.int v)])) _
        refine XS.bipush X20.here hx rfl (hb hby at_31) ?_
        exact kt)
    by_cases hc33 : v = (10 : Int32)
    · obtain ⟨_, _, ⟨T22, L22, k22, n22⟩, -, X22, ⟨Lc22, hQ22, l22, y22, z22⟩, st22⟩ := Jvm.LawKit.callS X20 hx (y := (⟨"com/example/inked_rows/inkedrows/xml/Lines", "endsLine", "(CZ)Z"⟩ : MethodName)) hown (mvT hZ (hw _ (List.mem_of_getElem? (i := 4) rfl))) (mvT hZ (hw _ (List.mem_of_getElem? (i := 5) rfl))) (mvT hZ (hw _ (List.mem_of_getElem? (i := 6) rfl))) (mvT hZ (hw _ (List.mem_of_getElem? (i := 7) rfl))) (by decide) (backOf (W := 0) (rm2 l Z a0 hw [] v (0 : Int32) h0 n0 Z0 ) hZ (hw _ (List.mem_of_getElem? (i := 7) rfl)) (hw _ (List.mem_of_getElem? (i := 6) rfl)) (by decide) (by decide)) (g := (mkF m 74 #[.val (.int p0), .val (.int p1), .val (.int (1 : Int32)), .val (.int v), .val (.int v), .val (.int (endsV v (1 : Int32))), .val (.int (1 : Int32)), .unset] [(.int (0 : Int32)), (.int v)])) rfl (by rw [hml]; rfl) (argsL := [(.int v), (.int (0 : Int32))]) (rest := []) (lenOf pd_1 rfl) rfl (by show 2 * 0 + _ ≤ _; exact Nat.le_of_eq rfl) (hb hby at_74) (fun _ _ => ⟨rfl, e20, (by decide : 0 + 0 ≤ _), (by decide : 0 + 0 ≤ _)⟩)
      dsimp only [Pt.U, Pt.locs, Pt.cells, Pt.slots] at X22 l22 y22 z22 st22 hQ22
      subst l22 y22 z22
      obtain ⟨rfl, N22q, e22⟩ := hQ22
      have N22 := Fr.app N20 N22q
      obtain ⟨_, _, ⟨T23, L23, k23, n23⟩, -, X23, ⟨Lc23, hQ23, l23, y23, z23⟩, st23⟩ := Jvm.LawKit.callS X22 hx (y := (⟨"com/example/inked_rows/inkedrows/xml/Lines", "endsLine", "(CZ)Z"⟩ : MethodName)) hown (mvT hZ (hw _ (List.mem_of_getElem? (i := 4) rfl))) (mvT hZ (hw _ (List.mem_of_getElem? (i := 5) rfl))) (mvT hZ (hw _ (List.mem_of_getElem? (i := 6) rfl))) (mvT hZ (hw _ (List.mem_of_getElem? (i := 7) rfl))) (by decide) (backOf (W := 0) (rm2 l Z a0 hw [] v (1 : Int32) h0 n0 Z0 ) hZ (hw _ (List.mem_of_getElem? (i := 7) rfl)) (hw _ (List.mem_of_getElem? (i := 6) rfl)) (by decide) (by decide)) (g := (mkF m 83 #[.val (.int p0), .val (.int p1), .val (.int (1 : Int32)), .val (.int v), .val (.int v), .val (.int (endsV v (1 : Int32))), .val (.int (1 : Int32)), .unset] [(.int (1 : Int32)), (.int v)])) rfl (by rw [hml]; rfl) (argsL := [(.int v), (.int (1 : Int32))]) (rest := []) (lenOf pd_1 rfl) rfl (by show 2 * 0 + _ ≤ _; exact Nat.le_of_eq rfl) (hb hby at_83) (fun _ _ => ⟨rfl, e22, (by decide : 0 + 0 ≤ _), (by decide : 0 + 0 ≤ _)⟩)
      dsimp only [Pt.U, Pt.locs, Pt.cells, Pt.slots] at X23 l23 y23 z23 st23 hQ23
      subst l23 y23 z23
      obtain ⟨rfl, N23q, e23⟩ := hQ23
      have N23 := Fr.app N22 N23q
      obtain ⟨fs, hr, hrun, hended, hW, hsame⟩ := X23.leave (v := some (.int (1 : Int32))) (fun h => by rw [Bd.returns] at h; cases h)
      refine ⟨_, _, pre21 _ ?_, hrun, hended, _, _, rfl, ?_, ⟨_, rfl⟩, hW, hsame.mono (by decide) (by decide)⟩
      · show Steps p.tables e below (T20.setTop (mkF m 33 #[.val (.int p0), .val (.int p1), .val (.int (1 : Int32)), .val (.int v), .val (.int v), .val (.int (endsV v (1 : Int32))), .unset, .unset] [(.int (10 : Int32)), (.int v)])) _
        refine XS.icmpYes X20.here hx rfl (pc0 := 33) (pc' := 42) rfl (hb hby at_33) rfl (teq (show v = (10 : Int32) from hc33)).1 (by decide) (by decide) ?_
        show Steps p.tables e below (T20.setTop (mkF m 42 #[.val (.int p0), .val (.int p1), .val (.int (1 : Int32)), .val (.int v), .val (.int v), .val (.int (endsV v (1 : Int32))), .unset, .unset] [])) _
        refine XS.iconst X20.here hx rfl (hb hby at_42) ?_
        show Steps p.tables e below (T20.setTop (mkF m 43 #[.val (.int p0), .val (.int p1), .val (.int (1 : Int32)), .val (.int v), .val (.int v), .val (.int (endsV v (1 : Int32))), .unset, .unset] [(.int (1 : Int32))])) _
        refine XS.istore X20.here hx rfl (hb hby at_43) rfl (l' := #[.val (.int p0), .val (.int p1), .val (.int (1 : Int32)), .val (.int v), .val (.int v), .val (.int (endsV v (1 : Int32))), .val (.int (1 : Int32)), .unset]) rfl ?_
        show Steps p.tables e below (T20.setTop (mkF m 45 #[.val (.int p0), .val (.int p1), .val (.int (1 : Int32)), .val (.int v), .val (.int v), .val (.int (endsV v (1 : Int32))), .val (.int (1 : Int32)), .unset] [])) _
        refine XS.goto X20.here hx rfl (pc0 := 45) (pc' := 71) rfl (hb hby at_45) (by decide) (by decide) ?_
        show Steps p.tables e below (T20.setTop (mkF m 71 #[.val (.int p0), .val (.int p1), .val (.int (1 : Int32)), .val (.int v), .val (.int v), .val (.int (endsV v (1 : Int32))), .val (.int (1 : Int32)), .unset] [])) _
        refine XS.iload X20.here hx rfl (hb hby at_71) rfl ?_
        show Steps p.tables e below (T20.setTop (mkF m 73 #[.val (.int p0), .val (.int p1), .val (.int (1 : Int32)), .val (.int v), .val (.int v), .val (.int (endsV v (1 : Int32))), .val (.int (1 : Int32)), .unset] [(.int v)])) _
        refine XS.iconst X20.here hx rfl (hb hby at_73) ?_
        show Steps p.tables e below (T20.setTop (mkF m 74 #[.val (.int p0), .val (.int p1), .val (.int (1 : Int32)), .val (.int v), .val (.int v), .val (.int (endsV v (1 : Int32))), .val (.int (1 : Int32)), .unset] [(.int (0 : Int32)), (.int v)])) _
        refine st22 _ ?_
        show Steps p.tables e below (T22.setTop (mkF m 77 #[.val (.int p0), .val (.int p1), .val (.int (1 : Int32)), .val (.int v), .val (.int v), .val (.int (endsV v (1 : Int32))), .val (.int (1 : Int32)), .unset] [(.int (endsV v (0 : Int32)))])) _
        refine XS.ifNo X22.here hx rfl (hb hby at_77) rfl ((if0 _ _).trans (feq (show ¬ ((endsV v (0 : Int32)) = (0 : Int32)) from (by rw [hc33]; decide))).1) ?_
        show Steps p.tables e below (T22.setTop (mkF m 80 #[.val (.int p0), .val (.int p1), .val (.int (1 : Int32)), .val (.int v), .val (.int v), .val (.int (endsV v (1 : Int32))), .val (.int (1 : Int32)), .unset] [])) _
        refine XS.iload X22.here hx rfl (hb hby at_80) rfl ?_
        show Steps p.tables e below (T22.setTop (mkF m 82 #[.val (.int p0), .val (.int p1), .val (.int (1 : Int32)), .val (.int v), .val (.int v), .val (.int (endsV v (1 : Int32))), .val (.int (1 : Int32)), .unset] [(.int v)])) _
        refine XS.iconst X22.here hx rfl (hb hby at_82) ?_
        show Steps p.tables e below (T22.setTop (mkF m 83 #[.val (.int p0), .val (.int p1), .val (.int (1 : Int32)), .val (.int v), .val (.int v), .val (.int (endsV v (1 : Int32))), .val (.int (1 : Int32)), .unset] [(.int (1 : Int32)), (.int v)])) _
        refine st23 _ ?_
        show Steps p.tables e below (T23.setTop (mkF m 86 #[.val (.int p0), .val (.int p1), .val (.int (1 : Int32)), .val (.int v), .val (.int v), .val (.int (endsV v (1 : Int32))), .val (.int (1 : Int32)), .unset] [(.int (endsV v (1 : Int32)))])) _
        refine XS.ifNo X23.here hx rfl (hb hby at_86) rfl ((if0 _ _).trans (feq (show ¬ ((endsV v (1 : Int32)) = (0 : Int32)) from (by rw [hc33]; decide))).1) ?_
        show Steps p.tables e below (T23.setTop (mkF m 89 #[.val (.int p0), .val (.int p1), .val (.int (1 : Int32)), .val (.int v), .val (.int v), .val (.int (endsV v (1 : Int32))), .val (.int (1 : Int32)), .unset] [])) _
        refine XS.iconst X23.here hx rfl (hb hby at_89) ?_
        show Steps p.tables e below (T23.setTop (mkF m 90 #[.val (.int p0), .val (.int p1), .val (.int (1 : Int32)), .val (.int v), .val (.int v), .val (.int (endsV v (1 : Int32))), .val (.int (1 : Int32)), .unset] [(.int (1 : Int32))])) _
        refine XS.goto X23.here hx rfl (pc0 := 90) (pc' := 94) rfl (hb hby at_90) (by decide) (by decide) ?_
        show Steps p.tables e below (T23.setTop (mkF m 94 #[.val (.int p0), .val (.int p1), .val (.int (1 : Int32)), .val (.int v), .val (.int v), .val (.int (endsV v (1 : Int32))), .val (.int (1 : Int32)), .unset] [(.int (1 : Int32))])) _
        refine XS.istore X23.here hx rfl (hb hby at_94) rfl (l' := #[.val (.int p0), .val (.int p1), .val (.int (1 : Int32)), .val (.int v), .val (.int v), .val (.int (endsV v (1 : Int32))), .val (.int (1 : Int32)), .val (.int (1 : Int32))]) rfl ?_
        show Steps p.tables e below (T23.setTop (mkF m 96 #[.val (.int p0), .val (.int p1), .val (.int (1 : Int32)), .val (.int v), .val (.int v), .val (.int (endsV v (1 : Int32))), .val (.int (1 : Int32)), .val (.int (1 : Int32))] [])) _
        refine XS.iload X23.here hx rfl (hb hby at_96) rfl ?_
        show Steps p.tables e below (T23.setTop (mkF m 98 #[.val (.int p0), .val (.int p1), .val (.int (1 : Int32)), .val (.int v), .val (.int v), .val (.int (endsV v (1 : Int32))), .val (.int (1 : Int32)), .val (.int (1 : Int32))] [(.int (endsV v (1 : Int32)))])) _
        refine XS.iload X23.here hx rfl (hb hby at_98) rfl ?_
        show Steps p.tables e below (T23.setTop (mkF m 100 #[.val (.int p0), .val (.int p1), .val (.int (1 : Int32)), .val (.int v), .val (.int v), .val (.int (endsV v (1 : Int32))), .val (.int (1 : Int32)), .val (.int (1 : Int32))] [(.int (1 : Int32)), (.int (endsV v (1 : Int32)))])) _
        refine XS.icmpNo X23.here hx rfl (hb hby at_100) rfl (teq (show (endsV v (1 : Int32)) = (1 : Int32) from (by rw [hc33]; decide))).2 ?_
        show Steps p.tables e below (T23.setTop (mkF m 103 #[.val (.int p0), .val (.int p1), .val (.int (1 : Int32)), .val (.int v), .val (.int v), .val (.int (endsV v (1 : Int32))), .val (.int (1 : Int32)), .val (.int (1 : Int32))] [])) _
        refine XS.iload X23.here hx rfl (hb hby at_103) rfl ?_
        show Steps p.tables e below (T23.setTop (mkF m 105 #[.val (.int p0), .val (.int p1), .val (.int (1 : Int32)), .val (.int v), .val (.int v), .val (.int (endsV v (1 : Int32))), .val (.int (1 : Int32)), .val (.int (1 : Int32))] [(.int (1 : Int32))])) _
        refine XS.ifNo X23.here hx rfl (hb hby at_105) rfl ((if0 _ _).trans (feq (show ¬ ((1 : Int32) = (0 : Int32)) from (by decide))).1) ?_
        show Steps p.tables e below (T23.setTop (mkF m 108 #[.val (.int p0), .val (.int p1), .val (.int (1 : Int32)), .val (.int v), .val (.int v), .val (.int (endsV v (1 : Int32))), .val (.int (1 : Int32)), .val (.int (1 : Int32))] [])) _
        refine XS.iconst X23.here hx rfl (hb hby at_108) ?_
        show Steps p.tables e below (T23.setTop (mkF m 109 #[.val (.int p0), .val (.int p1), .val (.int (1 : Int32)), .val (.int v), .val (.int v), .val (.int (endsV v (1 : Int32))), .val (.int (1 : Int32)), .val (.int (1 : Int32))] [(.int (1 : Int32))])) _
        refine XS.goto X23.here hx rfl (pc0 := 109) (pc' := 113) rfl (hb hby at_109) (by decide) (by decide) ?_
        show Steps p.tables e below (T23.setTop (mkF m 113 #[.val (.int p0), .val (.int p1), .val (.int (1 : Int32)), .val (.int v), .val (.int v), .val (.int (endsV v (1 : Int32))), .val (.int (1 : Int32)), .val (.int (1 : Int32))] [(.int (1 : Int32))])) _
        exact retN X23 hx (t := .boolean) Bd.returns (by simp) (hb hby at_113) hr
      · show Q0 h0 n0 _ T23.heap _
        rw [e23]
        exact ⟨rfl, N23⟩
    · have pre24 : ∀ t, Steps p.tables e below (T20.setTop (mkF m 39 #[.val (.int p0), .val (.int p1), .val (.int (1 : Int32)), .val (.int v), .val (.int v), .val (.int (endsV v (1 : Int32))), .unset, .unset] [(.int (13 : Int32)), (.int v)])) t → Steps p.tables e below (s₁.setTop (entryFrame m #[(.int p0), (.int p1)] maxLocals)) t := fun t kt => pre21 t (by
          show Steps p.tables e below (T20.setTop (mkF m 33 #[.val (.int p0), .val (.int p1), .val (.int (1 : Int32)), .val (.int v), .val (.int v), .val (.int (endsV v (1 : Int32))), .unset, .unset] [(.int (10 : Int32)), (.int v)])) _
          refine XS.icmpNo X20.here hx rfl (hb hby at_33) rfl (feq (show ¬ (v = (10 : Int32)) from hc33)).1 ?_
          show Steps p.tables e below (T20.setTop (mkF m 36 #[.val (.int p0), .val (.int p1), .val (.int (1 : Int32)), .val (.int v), .val (.int v), .val (.int (endsV v (1 : Int32))), .unset, .unset] [])) _
          refine XS.iloadN X20.here hx rfl (hb hby at_36) rfl ?_
          show Steps p.tables e below (T20.setTop (mkF m 37 #[.val (.int p0), .val (.int p1), .val (.int (1 : Int32)), .val (.int v), .val (.int v), .val (.int (endsV v (1 : Int32))), .unset, .unset] [(.int v)])) _
          refine XS.bipush X20.here hx rfl (hb hby at_37) ?_
          exact kt)
      by_cases hc39 : v = (13 : Int32)
      · obtain ⟨_, _, ⟨T25, L25, k25, n25⟩, -, X25, ⟨Lc25, hQ25, l25, y25, z25⟩, st25⟩ := Jvm.LawKit.callS X20 hx (y := (⟨"com/example/inked_rows/inkedrows/xml/Lines", "endsLine", "(CZ)Z"⟩ : MethodName)) hown (mvT hZ (hw _ (List.mem_of_getElem? (i := 4) rfl))) (mvT hZ (hw _ (List.mem_of_getElem? (i := 5) rfl))) (mvT hZ (hw _ (List.mem_of_getElem? (i := 6) rfl))) (mvT hZ (hw _ (List.mem_of_getElem? (i := 7) rfl))) (by decide) (backOf (W := 0) (rm2 l Z a0 hw [] v (0 : Int32) h0 n0 Z0 ) hZ (hw _ (List.mem_of_getElem? (i := 7) rfl)) (hw _ (List.mem_of_getElem? (i := 6) rfl)) (by decide) (by decide)) (g := (mkF m 74 #[.val (.int p0), .val (.int p1), .val (.int (1 : Int32)), .val (.int v), .val (.int v), .val (.int (endsV v (1 : Int32))), .val (.int (1 : Int32)), .unset] [(.int (0 : Int32)), (.int v)])) rfl (by rw [hml]; rfl) (argsL := [(.int v), (.int (0 : Int32))]) (rest := []) (lenOf pd_1 rfl) rfl (by show 2 * 0 + _ ≤ _; exact Nat.le_of_eq rfl) (hb hby at_74) (fun _ _ => ⟨rfl, e20, (by decide : 0 + 0 ≤ _), (by decide : 0 + 0 ≤ _)⟩)
        dsimp only [Pt.U, Pt.locs, Pt.cells, Pt.slots] at X25 l25 y25 z25 st25 hQ25
        subst l25 y25 z25
        obtain ⟨rfl, N25q, e25⟩ := hQ25
        have N25 := Fr.app N20 N25q
        obtain ⟨_, _, ⟨T26, L26, k26, n26⟩, -, X26, ⟨Lc26, hQ26, l26, y26, z26⟩, st26⟩ := Jvm.LawKit.callS X25 hx (y := (⟨"com/example/inked_rows/inkedrows/xml/Lines", "endsLine", "(CZ)Z"⟩ : MethodName)) hown (mvT hZ (hw _ (List.mem_of_getElem? (i := 4) rfl))) (mvT hZ (hw _ (List.mem_of_getElem? (i := 5) rfl))) (mvT hZ (hw _ (List.mem_of_getElem? (i := 6) rfl))) (mvT hZ (hw _ (List.mem_of_getElem? (i := 7) rfl))) (by decide) (backOf (W := 0) (rm2 l Z a0 hw [] v (1 : Int32) h0 n0 Z0 ) hZ (hw _ (List.mem_of_getElem? (i := 7) rfl)) (hw _ (List.mem_of_getElem? (i := 6) rfl)) (by decide) (by decide)) (g := (mkF m 83 #[.val (.int p0), .val (.int p1), .val (.int (1 : Int32)), .val (.int v), .val (.int v), .val (.int (endsV v (1 : Int32))), .val (.int (1 : Int32)), .unset] [(.int (1 : Int32)), (.int v)])) rfl (by rw [hml]; rfl) (argsL := [(.int v), (.int (1 : Int32))]) (rest := []) (lenOf pd_1 rfl) rfl (by show 2 * 0 + _ ≤ _; exact Nat.le_of_eq rfl) (hb hby at_83) (fun _ _ => ⟨rfl, e25, (by decide : 0 + 0 ≤ _), (by decide : 0 + 0 ≤ _)⟩)
        dsimp only [Pt.U, Pt.locs, Pt.cells, Pt.slots] at X26 l26 y26 z26 st26 hQ26
        subst l26 y26 z26
        obtain ⟨rfl, N26q, e26⟩ := hQ26
        have N26 := Fr.app N25 N26q
        obtain ⟨fs, hr, hrun, hended, hW, hsame⟩ := X26.leave (v := some (.int (1 : Int32))) (fun h => by rw [Bd.returns] at h; cases h)
        refine ⟨_, _, pre24 _ ?_, hrun, hended, _, _, rfl, ?_, ⟨_, rfl⟩, hW, hsame.mono (by decide) (by decide)⟩
        · show Steps p.tables e below (T20.setTop (mkF m 39 #[.val (.int p0), .val (.int p1), .val (.int (1 : Int32)), .val (.int v), .val (.int v), .val (.int (endsV v (1 : Int32))), .unset, .unset] [(.int (13 : Int32)), (.int v)])) _
          refine XS.icmpNo X20.here hx rfl (hb hby at_39) rfl (teq (show v = (13 : Int32) from hc39)).2 ?_
          show Steps p.tables e below (T20.setTop (mkF m 42 #[.val (.int p0), .val (.int p1), .val (.int (1 : Int32)), .val (.int v), .val (.int v), .val (.int (endsV v (1 : Int32))), .unset, .unset] [])) _
          refine XS.iconst X20.here hx rfl (hb hby at_42) ?_
          show Steps p.tables e below (T20.setTop (mkF m 43 #[.val (.int p0), .val (.int p1), .val (.int (1 : Int32)), .val (.int v), .val (.int v), .val (.int (endsV v (1 : Int32))), .unset, .unset] [(.int (1 : Int32))])) _
          refine XS.istore X20.here hx rfl (hb hby at_43) rfl (l' := #[.val (.int p0), .val (.int p1), .val (.int (1 : Int32)), .val (.int v), .val (.int v), .val (.int (endsV v (1 : Int32))), .val (.int (1 : Int32)), .unset]) rfl ?_
          show Steps p.tables e below (T20.setTop (mkF m 45 #[.val (.int p0), .val (.int p1), .val (.int (1 : Int32)), .val (.int v), .val (.int v), .val (.int (endsV v (1 : Int32))), .val (.int (1 : Int32)), .unset] [])) _
          refine XS.goto X20.here hx rfl (pc0 := 45) (pc' := 71) rfl (hb hby at_45) (by decide) (by decide) ?_
          show Steps p.tables e below (T20.setTop (mkF m 71 #[.val (.int p0), .val (.int p1), .val (.int (1 : Int32)), .val (.int v), .val (.int v), .val (.int (endsV v (1 : Int32))), .val (.int (1 : Int32)), .unset] [])) _
          refine XS.iload X20.here hx rfl (hb hby at_71) rfl ?_
          show Steps p.tables e below (T20.setTop (mkF m 73 #[.val (.int p0), .val (.int p1), .val (.int (1 : Int32)), .val (.int v), .val (.int v), .val (.int (endsV v (1 : Int32))), .val (.int (1 : Int32)), .unset] [(.int v)])) _
          refine XS.iconst X20.here hx rfl (hb hby at_73) ?_
          show Steps p.tables e below (T20.setTop (mkF m 74 #[.val (.int p0), .val (.int p1), .val (.int (1 : Int32)), .val (.int v), .val (.int v), .val (.int (endsV v (1 : Int32))), .val (.int (1 : Int32)), .unset] [(.int (0 : Int32)), (.int v)])) _
          refine st25 _ ?_
          show Steps p.tables e below (T25.setTop (mkF m 77 #[.val (.int p0), .val (.int p1), .val (.int (1 : Int32)), .val (.int v), .val (.int v), .val (.int (endsV v (1 : Int32))), .val (.int (1 : Int32)), .unset] [(.int (endsV v (0 : Int32)))])) _
          refine XS.ifNo X25.here hx rfl (hb hby at_77) rfl ((if0 _ _).trans (feq (show ¬ ((endsV v (0 : Int32)) = (0 : Int32)) from (by rw [hc39]; decide))).1) ?_
          show Steps p.tables e below (T25.setTop (mkF m 80 #[.val (.int p0), .val (.int p1), .val (.int (1 : Int32)), .val (.int v), .val (.int v), .val (.int (endsV v (1 : Int32))), .val (.int (1 : Int32)), .unset] [])) _
          refine XS.iload X25.here hx rfl (hb hby at_80) rfl ?_
          show Steps p.tables e below (T25.setTop (mkF m 82 #[.val (.int p0), .val (.int p1), .val (.int (1 : Int32)), .val (.int v), .val (.int v), .val (.int (endsV v (1 : Int32))), .val (.int (1 : Int32)), .unset] [(.int v)])) _
          refine XS.iconst X25.here hx rfl (hb hby at_82) ?_
          show Steps p.tables e below (T25.setTop (mkF m 83 #[.val (.int p0), .val (.int p1), .val (.int (1 : Int32)), .val (.int v), .val (.int v), .val (.int (endsV v (1 : Int32))), .val (.int (1 : Int32)), .unset] [(.int (1 : Int32)), (.int v)])) _
          refine st26 _ ?_
          show Steps p.tables e below (T26.setTop (mkF m 86 #[.val (.int p0), .val (.int p1), .val (.int (1 : Int32)), .val (.int v), .val (.int v), .val (.int (endsV v (1 : Int32))), .val (.int (1 : Int32)), .unset] [(.int (endsV v (1 : Int32)))])) _
          refine XS.ifNo X26.here hx rfl (hb hby at_86) rfl ((if0 _ _).trans (feq (show ¬ ((endsV v (1 : Int32)) = (0 : Int32)) from (by rw [hc39]; decide))).1) ?_
          show Steps p.tables e below (T26.setTop (mkF m 89 #[.val (.int p0), .val (.int p1), .val (.int (1 : Int32)), .val (.int v), .val (.int v), .val (.int (endsV v (1 : Int32))), .val (.int (1 : Int32)), .unset] [])) _
          refine XS.iconst X26.here hx rfl (hb hby at_89) ?_
          show Steps p.tables e below (T26.setTop (mkF m 90 #[.val (.int p0), .val (.int p1), .val (.int (1 : Int32)), .val (.int v), .val (.int v), .val (.int (endsV v (1 : Int32))), .val (.int (1 : Int32)), .unset] [(.int (1 : Int32))])) _
          refine XS.goto X26.here hx rfl (pc0 := 90) (pc' := 94) rfl (hb hby at_90) (by decide) (by decide) ?_
          show Steps p.tables e below (T26.setTop (mkF m 94 #[.val (.int p0), .val (.int p1), .val (.int (1 : Int32)), .val (.int v), .val (.int v), .val (.int (endsV v (1 : Int32))), .val (.int (1 : Int32)), .unset] [(.int (1 : Int32))])) _
          refine XS.istore X26.here hx rfl (hb hby at_94) rfl (l' := #[.val (.int p0), .val (.int p1), .val (.int (1 : Int32)), .val (.int v), .val (.int v), .val (.int (endsV v (1 : Int32))), .val (.int (1 : Int32)), .val (.int (1 : Int32))]) rfl ?_
          show Steps p.tables e below (T26.setTop (mkF m 96 #[.val (.int p0), .val (.int p1), .val (.int (1 : Int32)), .val (.int v), .val (.int v), .val (.int (endsV v (1 : Int32))), .val (.int (1 : Int32)), .val (.int (1 : Int32))] [])) _
          refine XS.iload X26.here hx rfl (hb hby at_96) rfl ?_
          show Steps p.tables e below (T26.setTop (mkF m 98 #[.val (.int p0), .val (.int p1), .val (.int (1 : Int32)), .val (.int v), .val (.int v), .val (.int (endsV v (1 : Int32))), .val (.int (1 : Int32)), .val (.int (1 : Int32))] [(.int (endsV v (1 : Int32)))])) _
          refine XS.iload X26.here hx rfl (hb hby at_98) rfl ?_
          show Steps p.tables e below (T26.setTop (mkF m 100 #[.val (.int p0), .val (.int p1), .val (.int (1 : Int32)), .val (.int v), .val (.int v), .val (.int (endsV v (1 : Int32))), .val (.int (1 : Int32)), .val (.int (1 : Int32))] [(.int (1 : Int32)), (.int (endsV v (1 : Int32)))])) _
          refine XS.icmpNo X26.here hx rfl (hb hby at_100) rfl (teq (show (endsV v (1 : Int32)) = (1 : Int32) from (by rw [hc39]; decide))).2 ?_
          show Steps p.tables e below (T26.setTop (mkF m 103 #[.val (.int p0), .val (.int p1), .val (.int (1 : Int32)), .val (.int v), .val (.int v), .val (.int (endsV v (1 : Int32))), .val (.int (1 : Int32)), .val (.int (1 : Int32))] [])) _
          refine XS.iload X26.here hx rfl (hb hby at_103) rfl ?_
          show Steps p.tables e below (T26.setTop (mkF m 105 #[.val (.int p0), .val (.int p1), .val (.int (1 : Int32)), .val (.int v), .val (.int v), .val (.int (endsV v (1 : Int32))), .val (.int (1 : Int32)), .val (.int (1 : Int32))] [(.int (1 : Int32))])) _
          refine XS.ifNo X26.here hx rfl (hb hby at_105) rfl ((if0 _ _).trans (feq (show ¬ ((1 : Int32) = (0 : Int32)) from (by decide))).1) ?_
          show Steps p.tables e below (T26.setTop (mkF m 108 #[.val (.int p0), .val (.int p1), .val (.int (1 : Int32)), .val (.int v), .val (.int v), .val (.int (endsV v (1 : Int32))), .val (.int (1 : Int32)), .val (.int (1 : Int32))] [])) _
          refine XS.iconst X26.here hx rfl (hb hby at_108) ?_
          show Steps p.tables e below (T26.setTop (mkF m 109 #[.val (.int p0), .val (.int p1), .val (.int (1 : Int32)), .val (.int v), .val (.int v), .val (.int (endsV v (1 : Int32))), .val (.int (1 : Int32)), .val (.int (1 : Int32))] [(.int (1 : Int32))])) _
          refine XS.goto X26.here hx rfl (pc0 := 109) (pc' := 113) rfl (hb hby at_109) (by decide) (by decide) ?_
          show Steps p.tables e below (T26.setTop (mkF m 113 #[.val (.int p0), .val (.int p1), .val (.int (1 : Int32)), .val (.int v), .val (.int v), .val (.int (endsV v (1 : Int32))), .val (.int (1 : Int32)), .val (.int (1 : Int32))] [(.int (1 : Int32))])) _
          exact retN X26 hx (t := .boolean) Bd.returns (by simp) (hb hby at_113) hr
        · show Q0 h0 n0 _ T26.heap _
          rw [e26]
          exact ⟨rfl, N26⟩
      · have pre27 : ∀ t, Steps p.tables e below (T20.setTop (mkF m 52 #[.val (.int p0), .val (.int p1), .val (.int (1 : Int32)), .val (.int v), .val (.int v), .val (.int (endsV v (1 : Int32))), .unset, .unset] [(.int (133 : Int32)), (.int v)])) t → Steps p.tables e below (s₁.setTop (entryFrame m #[(.int p0), (.int p1)] maxLocals)) t := fun t kt => pre24 t (by
            show Steps p.tables e below (T20.setTop (mkF m 39 #[.val (.int p0), .val (.int p1), .val (.int (1 : Int32)), .val (.int v), .val (.int v), .val (.int (endsV v (1 : Int32))), .unset, .unset] [(.int (13 : Int32)), (.int v)])) _
            refine XS.icmpYes X20.here hx rfl (pc0 := 39) (pc' := 48) rfl (hb hby at_39) rfl (feq (show ¬ (v = (13 : Int32)) from hc39)).2 (by decide) (by decide) ?_
            show Steps p.tables e below (T20.setTop (mkF m 48 #[.val (.int p0), .val (.int p1), .val (.int (1 : Int32)), .val (.int v), .val (.int v), .val (.int (endsV v (1 : Int32))), .unset, .unset] [])) _
            refine XS.iloadN X20.here hx rfl (hb hby at_48) rfl ?_
            show Steps p.tables e below (T20.setTop (mkF m 49 #[.val (.int p0), .val (.int p1), .val (.int (1 : Int32)), .val (.int v), .val (.int v), .val (.int (endsV v (1 : Int32))), .unset, .unset] [(.int v)])) _
            refine XS.sipush X20.here hx rfl (hb hby at_49) ?_
            exact kt)
        by_cases hc52 : v = (133 : Int32)
        · obtain ⟨_, _, ⟨T28, L28, k28, n28⟩, -, X28, ⟨Lc28, hQ28, l28, y28, z28⟩, st28⟩ := Jvm.LawKit.callS X20 hx (y := (⟨"com/example/inked_rows/inkedrows/xml/Lines", "endsLine", "(CZ)Z"⟩ : MethodName)) hown (mvT hZ (hw _ (List.mem_of_getElem? (i := 4) rfl))) (mvT hZ (hw _ (List.mem_of_getElem? (i := 5) rfl))) (mvT hZ (hw _ (List.mem_of_getElem? (i := 6) rfl))) (mvT hZ (hw _ (List.mem_of_getElem? (i := 7) rfl))) (by decide) (backOf (W := 0) (rm2 l Z a0 hw [] v (0 : Int32) h0 n0 Z0 ) hZ (hw _ (List.mem_of_getElem? (i := 7) rfl)) (hw _ (List.mem_of_getElem? (i := 6) rfl)) (by decide) (by decide)) (g := (mkF m 74 #[.val (.int p0), .val (.int p1), .val (.int (1 : Int32)), .val (.int v), .val (.int v), .val (.int (endsV v (1 : Int32))), .val (.int (1 : Int32)), .unset] [(.int (0 : Int32)), (.int v)])) rfl (by rw [hml]; rfl) (argsL := [(.int v), (.int (0 : Int32))]) (rest := []) (lenOf pd_1 rfl) rfl (by show 2 * 0 + _ ≤ _; exact Nat.le_of_eq rfl) (hb hby at_74) (fun _ _ => ⟨rfl, e20, (by decide : 0 + 0 ≤ _), (by decide : 0 + 0 ≤ _)⟩)
          dsimp only [Pt.U, Pt.locs, Pt.cells, Pt.slots] at X28 l28 y28 z28 st28 hQ28
          subst l28 y28 z28
          obtain ⟨rfl, N28q, e28⟩ := hQ28
          have N28 := Fr.app N20 N28q
          obtain ⟨fs, hr, hrun, hended, hW, hsame⟩ := X28.leave (v := some (.int (1 : Int32))) (fun h => by rw [Bd.returns] at h; cases h)
          refine ⟨_, _, pre27 _ ?_, hrun, hended, _, _, rfl, ?_, ⟨_, rfl⟩, hW, hsame.mono (by decide) (by decide)⟩
          · show Steps p.tables e below (T20.setTop (mkF m 52 #[.val (.int p0), .val (.int p1), .val (.int (1 : Int32)), .val (.int v), .val (.int v), .val (.int (endsV v (1 : Int32))), .unset, .unset] [(.int (133 : Int32)), (.int v)])) _
            refine XS.icmpYes X20.here hx rfl (pc0 := 52) (pc' := 62) rfl (hb hby at_52) rfl (teq (show v = (133 : Int32) from hc52)).1 (by decide) (by decide) ?_
            show Steps p.tables e below (T20.setTop (mkF m 62 #[.val (.int p0), .val (.int p1), .val (.int (1 : Int32)), .val (.int v), .val (.int v), .val (.int (endsV v (1 : Int32))), .unset, .unset] [])) _
            refine XS.iloadN X20.here hx rfl (hb hby at_62) rfl ?_
            show Steps p.tables e below (T20.setTop (mkF m 63 #[.val (.int p0), .val (.int p1), .val (.int (1 : Int32)), .val (.int v), .val (.int v), .val (.int (endsV v (1 : Int32))), .unset, .unset] [(.int (1 : Int32))])) _
            refine XS.istore X20.here hx rfl (hb hby at_63) rfl (l' := #[.val (.int p0), .val (.int p1), .val (.int (1 : Int32)), .val (.int v), .val (.int v), .val (.int (endsV v (1 : Int32))), .val (.int (1 : Int32)), .unset]) rfl ?_
            show Steps p.tables e below (T20.setTop (mkF m 65 #[.val (.int p0), .val (.int p1), .val (.int (1 : Int32)), .val (.int v), .val (.int v), .val (.int (endsV v (1 : Int32))), .val (.int (1 : Int32)), .unset] [])) _
            refine XS.goto X20.here hx rfl (pc0 := 65) (pc' := 71) rfl (hb hby at_65) (by decide) (by decide) ?_
            show Steps p.tables e below (T20.setTop (mkF m 71 #[.val (.int p0), .val (.int p1), .val (.int (1 : Int32)), .val (.int v), .val (.int v), .val (.int (endsV v (1 : Int32))), .val (.int (1 : Int32)), .unset] [])) _
            refine XS.iload X20.here hx rfl (hb hby at_71) rfl ?_
            show Steps p.tables e below (T20.setTop (mkF m 73 #[.val (.int p0), .val (.int p1), .val (.int (1 : Int32)), .val (.int v), .val (.int v), .val (.int (endsV v (1 : Int32))), .val (.int (1 : Int32)), .unset] [(.int v)])) _
            refine XS.iconst X20.here hx rfl (hb hby at_73) ?_
            show Steps p.tables e below (T20.setTop (mkF m 74 #[.val (.int p0), .val (.int p1), .val (.int (1 : Int32)), .val (.int v), .val (.int v), .val (.int (endsV v (1 : Int32))), .val (.int (1 : Int32)), .unset] [(.int (0 : Int32)), (.int v)])) _
            refine st28 _ ?_
            show Steps p.tables e below (T28.setTop (mkF m 77 #[.val (.int p0), .val (.int p1), .val (.int (1 : Int32)), .val (.int v), .val (.int v), .val (.int (endsV v (1 : Int32))), .val (.int (1 : Int32)), .unset] [(.int (endsV v (0 : Int32)))])) _
            refine XS.ifYes X28.here hx rfl (pc0 := 77) (pc' := 89) rfl (hb hby at_77) rfl ((if0 _ _).trans (teq (show (endsV v (0 : Int32)) = (0 : Int32) from (by rw [hc52]; decide))).1) (by decide) (by decide) ?_
            show Steps p.tables e below (T28.setTop (mkF m 89 #[.val (.int p0), .val (.int p1), .val (.int (1 : Int32)), .val (.int v), .val (.int v), .val (.int (endsV v (1 : Int32))), .val (.int (1 : Int32)), .unset] [])) _
            refine XS.iconst X28.here hx rfl (hb hby at_89) ?_
            show Steps p.tables e below (T28.setTop (mkF m 90 #[.val (.int p0), .val (.int p1), .val (.int (1 : Int32)), .val (.int v), .val (.int v), .val (.int (endsV v (1 : Int32))), .val (.int (1 : Int32)), .unset] [(.int (1 : Int32))])) _
            refine XS.goto X28.here hx rfl (pc0 := 90) (pc' := 94) rfl (hb hby at_90) (by decide) (by decide) ?_
            show Steps p.tables e below (T28.setTop (mkF m 94 #[.val (.int p0), .val (.int p1), .val (.int (1 : Int32)), .val (.int v), .val (.int v), .val (.int (endsV v (1 : Int32))), .val (.int (1 : Int32)), .unset] [(.int (1 : Int32))])) _
            refine XS.istore X28.here hx rfl (hb hby at_94) rfl (l' := #[.val (.int p0), .val (.int p1), .val (.int (1 : Int32)), .val (.int v), .val (.int v), .val (.int (endsV v (1 : Int32))), .val (.int (1 : Int32)), .val (.int (1 : Int32))]) rfl ?_
            show Steps p.tables e below (T28.setTop (mkF m 96 #[.val (.int p0), .val (.int p1), .val (.int (1 : Int32)), .val (.int v), .val (.int v), .val (.int (endsV v (1 : Int32))), .val (.int (1 : Int32)), .val (.int (1 : Int32))] [])) _
            refine XS.iload X28.here hx rfl (hb hby at_96) rfl ?_
            show Steps p.tables e below (T28.setTop (mkF m 98 #[.val (.int p0), .val (.int p1), .val (.int (1 : Int32)), .val (.int v), .val (.int v), .val (.int (endsV v (1 : Int32))), .val (.int (1 : Int32)), .val (.int (1 : Int32))] [(.int (endsV v (1 : Int32)))])) _
            refine XS.iload X28.here hx rfl (hb hby at_98) rfl ?_
            show Steps p.tables e below (T28.setTop (mkF m 100 #[.val (.int p0), .val (.int p1), .val (.int (1 : Int32)), .val (.int v), .val (.int v), .val (.int (endsV v (1 : Int32))), .val (.int (1 : Int32)), .val (.int (1 : Int32))] [(.int (1 : Int32)), (.int (endsV v (1 : Int32)))])) _
            refine XS.icmpNo X28.here hx rfl (hb hby at_100) rfl (teq (show (endsV v (1 : Int32)) = (1 : Int32) from (by rw [hc52]; decide))).2 ?_
            show Steps p.tables e below (T28.setTop (mkF m 103 #[.val (.int p0), .val (.int p1), .val (.int (1 : Int32)), .val (.int v), .val (.int v), .val (.int (endsV v (1 : Int32))), .val (.int (1 : Int32)), .val (.int (1 : Int32))] [])) _
            refine XS.iload X28.here hx rfl (hb hby at_103) rfl ?_
            show Steps p.tables e below (T28.setTop (mkF m 105 #[.val (.int p0), .val (.int p1), .val (.int (1 : Int32)), .val (.int v), .val (.int v), .val (.int (endsV v (1 : Int32))), .val (.int (1 : Int32)), .val (.int (1 : Int32))] [(.int (1 : Int32))])) _
            refine XS.ifNo X28.here hx rfl (hb hby at_105) rfl ((if0 _ _).trans (feq (show ¬ ((1 : Int32) = (0 : Int32)) from (by decide))).1) ?_
            show Steps p.tables e below (T28.setTop (mkF m 108 #[.val (.int p0), .val (.int p1), .val (.int (1 : Int32)), .val (.int v), .val (.int v), .val (.int (endsV v (1 : Int32))), .val (.int (1 : Int32)), .val (.int (1 : Int32))] [])) _
            refine XS.iconst X28.here hx rfl (hb hby at_108) ?_
            show Steps p.tables e below (T28.setTop (mkF m 109 #[.val (.int p0), .val (.int p1), .val (.int (1 : Int32)), .val (.int v), .val (.int v), .val (.int (endsV v (1 : Int32))), .val (.int (1 : Int32)), .val (.int (1 : Int32))] [(.int (1 : Int32))])) _
            refine XS.goto X28.here hx rfl (pc0 := 109) (pc' := 113) rfl (hb hby at_109) (by decide) (by decide) ?_
            show Steps p.tables e below (T28.setTop (mkF m 113 #[.val (.int p0), .val (.int p1), .val (.int (1 : Int32)), .val (.int v), .val (.int v), .val (.int (endsV v (1 : Int32))), .val (.int (1 : Int32)), .val (.int (1 : Int32))] [(.int (1 : Int32))])) _
            exact retN X28 hx (t := .boolean) Bd.returns (by simp) (hb hby at_113) hr
          · show Q0 h0 n0 _ T28.heap _
            rw [e28]
            exact ⟨rfl, N28⟩
        · have pre29 : ∀ t, Steps p.tables e below (T20.setTop (mkF m 59 #[.val (.int p0), .val (.int p1), .val (.int (1 : Int32)), .val (.int v), .val (.int v), .val (.int (endsV v (1 : Int32))), .unset, .unset] [(.int (8232 : Int32)), (.int v)])) t → Steps p.tables e below (s₁.setTop (entryFrame m #[(.int p0), (.int p1)] maxLocals)) t := fun t kt => pre27 t (by
              show Steps p.tables e below (T20.setTop (mkF m 52 #[.val (.int p0), .val (.int p1), .val (.int (1 : Int32)), .val (.int v), .val (.int v), .val (.int (endsV v (1 : Int32))), .unset, .unset] [(.int (133 : Int32)), (.int v)])) _
              refine XS.icmpNo X20.here hx rfl (hb hby at_52) rfl (feq (show ¬ (v = (133 : Int32)) from hc52)).1 ?_
              show Steps p.tables e below (T20.setTop (mkF m 55 #[.val (.int p0), .val (.int p1), .val (.int (1 : Int32)), .val (.int v), .val (.int v), .val (.int (endsV v (1 : Int32))), .unset, .unset] [])) _
              refine XS.iloadN X20.here hx rfl (hb hby at_55) rfl ?_
              show Steps p.tables e below (T20.setTop (mkF m 56 #[.val (.int p0), .val (.int p1), .val (.int (1 : Int32)), .val (.int v), .val (.int v), .val (.int (endsV v (1 : Int32))), .unset, .unset] [(.int v)])) _
              refine XS.sipush X20.here hx rfl (hb hby at_56) ?_
              exact kt)
          by_cases hc59 : v = (8232 : Int32)
          · obtain ⟨_, _, ⟨T30, L30, k30, n30⟩, -, X30, ⟨Lc30, hQ30, l30, y30, z30⟩, st30⟩ := Jvm.LawKit.callS X20 hx (y := (⟨"com/example/inked_rows/inkedrows/xml/Lines", "endsLine", "(CZ)Z"⟩ : MethodName)) hown (mvT hZ (hw _ (List.mem_of_getElem? (i := 4) rfl))) (mvT hZ (hw _ (List.mem_of_getElem? (i := 5) rfl))) (mvT hZ (hw _ (List.mem_of_getElem? (i := 6) rfl))) (mvT hZ (hw _ (List.mem_of_getElem? (i := 7) rfl))) (by decide) (backOf (W := 0) (rm2 l Z a0 hw [] v (0 : Int32) h0 n0 Z0 ) hZ (hw _ (List.mem_of_getElem? (i := 7) rfl)) (hw _ (List.mem_of_getElem? (i := 6) rfl)) (by decide) (by decide)) (g := (mkF m 74 #[.val (.int p0), .val (.int p1), .val (.int (1 : Int32)), .val (.int v), .val (.int v), .val (.int (endsV v (1 : Int32))), .val (.int (1 : Int32)), .unset] [(.int (0 : Int32)), (.int v)])) rfl (by rw [hml]; rfl) (argsL := [(.int v), (.int (0 : Int32))]) (rest := []) (lenOf pd_1 rfl) rfl (by show 2 * 0 + _ ≤ _; exact Nat.le_of_eq rfl) (hb hby at_74) (fun _ _ => ⟨rfl, e20, (by decide : 0 + 0 ≤ _), (by decide : 0 + 0 ≤ _)⟩)
            dsimp only [Pt.U, Pt.locs, Pt.cells, Pt.slots] at X30 l30 y30 z30 st30 hQ30
            subst l30 y30 z30
            obtain ⟨rfl, N30q, e30⟩ := hQ30
            have N30 := Fr.app N20 N30q
            obtain ⟨fs, hr, hrun, hended, hW, hsame⟩ := X30.leave (v := some (.int (1 : Int32))) (fun h => by rw [Bd.returns] at h; cases h)
            refine ⟨_, _, pre29 _ ?_, hrun, hended, _, _, rfl, ?_, ⟨_, rfl⟩, hW, hsame.mono (by decide) (by decide)⟩
            · show Steps p.tables e below (T20.setTop (mkF m 59 #[.val (.int p0), .val (.int p1), .val (.int (1 : Int32)), .val (.int v), .val (.int v), .val (.int (endsV v (1 : Int32))), .unset, .unset] [(.int (8232 : Int32)), (.int v)])) _
              refine XS.icmpNo X20.here hx rfl (hb hby at_59) rfl (teq (show v = (8232 : Int32) from hc59)).2 ?_
              show Steps p.tables e below (T20.setTop (mkF m 62 #[.val (.int p0), .val (.int p1), .val (.int (1 : Int32)), .val (.int v), .val (.int v), .val (.int (endsV v (1 : Int32))), .unset, .unset] [])) _
              refine XS.iloadN X20.here hx rfl (hb hby at_62) rfl ?_
              show Steps p.tables e below (T20.setTop (mkF m 63 #[.val (.int p0), .val (.int p1), .val (.int (1 : Int32)), .val (.int v), .val (.int v), .val (.int (endsV v (1 : Int32))), .unset, .unset] [(.int (1 : Int32))])) _
              refine XS.istore X20.here hx rfl (hb hby at_63) rfl (l' := #[.val (.int p0), .val (.int p1), .val (.int (1 : Int32)), .val (.int v), .val (.int v), .val (.int (endsV v (1 : Int32))), .val (.int (1 : Int32)), .unset]) rfl ?_
              show Steps p.tables e below (T20.setTop (mkF m 65 #[.val (.int p0), .val (.int p1), .val (.int (1 : Int32)), .val (.int v), .val (.int v), .val (.int (endsV v (1 : Int32))), .val (.int (1 : Int32)), .unset] [])) _
              refine XS.goto X20.here hx rfl (pc0 := 65) (pc' := 71) rfl (hb hby at_65) (by decide) (by decide) ?_
              show Steps p.tables e below (T20.setTop (mkF m 71 #[.val (.int p0), .val (.int p1), .val (.int (1 : Int32)), .val (.int v), .val (.int v), .val (.int (endsV v (1 : Int32))), .val (.int (1 : Int32)), .unset] [])) _
              refine XS.iload X20.here hx rfl (hb hby at_71) rfl ?_
              show Steps p.tables e below (T20.setTop (mkF m 73 #[.val (.int p0), .val (.int p1), .val (.int (1 : Int32)), .val (.int v), .val (.int v), .val (.int (endsV v (1 : Int32))), .val (.int (1 : Int32)), .unset] [(.int v)])) _
              refine XS.iconst X20.here hx rfl (hb hby at_73) ?_
              show Steps p.tables e below (T20.setTop (mkF m 74 #[.val (.int p0), .val (.int p1), .val (.int (1 : Int32)), .val (.int v), .val (.int v), .val (.int (endsV v (1 : Int32))), .val (.int (1 : Int32)), .unset] [(.int (0 : Int32)), (.int v)])) _
              refine st30 _ ?_
              show Steps p.tables e below (T30.setTop (mkF m 77 #[.val (.int p0), .val (.int p1), .val (.int (1 : Int32)), .val (.int v), .val (.int v), .val (.int (endsV v (1 : Int32))), .val (.int (1 : Int32)), .unset] [(.int (endsV v (0 : Int32)))])) _
              refine XS.ifYes X30.here hx rfl (pc0 := 77) (pc' := 89) rfl (hb hby at_77) rfl ((if0 _ _).trans (teq (show (endsV v (0 : Int32)) = (0 : Int32) from (by rw [hc59]; decide))).1) (by decide) (by decide) ?_
              show Steps p.tables e below (T30.setTop (mkF m 89 #[.val (.int p0), .val (.int p1), .val (.int (1 : Int32)), .val (.int v), .val (.int v), .val (.int (endsV v (1 : Int32))), .val (.int (1 : Int32)), .unset] [])) _
              refine XS.iconst X30.here hx rfl (hb hby at_89) ?_
              show Steps p.tables e below (T30.setTop (mkF m 90 #[.val (.int p0), .val (.int p1), .val (.int (1 : Int32)), .val (.int v), .val (.int v), .val (.int (endsV v (1 : Int32))), .val (.int (1 : Int32)), .unset] [(.int (1 : Int32))])) _
              refine XS.goto X30.here hx rfl (pc0 := 90) (pc' := 94) rfl (hb hby at_90) (by decide) (by decide) ?_
              show Steps p.tables e below (T30.setTop (mkF m 94 #[.val (.int p0), .val (.int p1), .val (.int (1 : Int32)), .val (.int v), .val (.int v), .val (.int (endsV v (1 : Int32))), .val (.int (1 : Int32)), .unset] [(.int (1 : Int32))])) _
              refine XS.istore X30.here hx rfl (hb hby at_94) rfl (l' := #[.val (.int p0), .val (.int p1), .val (.int (1 : Int32)), .val (.int v), .val (.int v), .val (.int (endsV v (1 : Int32))), .val (.int (1 : Int32)), .val (.int (1 : Int32))]) rfl ?_
              show Steps p.tables e below (T30.setTop (mkF m 96 #[.val (.int p0), .val (.int p1), .val (.int (1 : Int32)), .val (.int v), .val (.int v), .val (.int (endsV v (1 : Int32))), .val (.int (1 : Int32)), .val (.int (1 : Int32))] [])) _
              refine XS.iload X30.here hx rfl (hb hby at_96) rfl ?_
              show Steps p.tables e below (T30.setTop (mkF m 98 #[.val (.int p0), .val (.int p1), .val (.int (1 : Int32)), .val (.int v), .val (.int v), .val (.int (endsV v (1 : Int32))), .val (.int (1 : Int32)), .val (.int (1 : Int32))] [(.int (endsV v (1 : Int32)))])) _
              refine XS.iload X30.here hx rfl (hb hby at_98) rfl ?_
              show Steps p.tables e below (T30.setTop (mkF m 100 #[.val (.int p0), .val (.int p1), .val (.int (1 : Int32)), .val (.int v), .val (.int v), .val (.int (endsV v (1 : Int32))), .val (.int (1 : Int32)), .val (.int (1 : Int32))] [(.int (1 : Int32)), (.int (endsV v (1 : Int32)))])) _
              refine XS.icmpNo X30.here hx rfl (hb hby at_100) rfl (teq (show (endsV v (1 : Int32)) = (1 : Int32) from (by rw [hc59]; decide))).2 ?_
              show Steps p.tables e below (T30.setTop (mkF m 103 #[.val (.int p0), .val (.int p1), .val (.int (1 : Int32)), .val (.int v), .val (.int v), .val (.int (endsV v (1 : Int32))), .val (.int (1 : Int32)), .val (.int (1 : Int32))] [])) _
              refine XS.iload X30.here hx rfl (hb hby at_103) rfl ?_
              show Steps p.tables e below (T30.setTop (mkF m 105 #[.val (.int p0), .val (.int p1), .val (.int (1 : Int32)), .val (.int v), .val (.int v), .val (.int (endsV v (1 : Int32))), .val (.int (1 : Int32)), .val (.int (1 : Int32))] [(.int (1 : Int32))])) _
              refine XS.ifNo X30.here hx rfl (hb hby at_105) rfl ((if0 _ _).trans (feq (show ¬ ((1 : Int32) = (0 : Int32)) from (by decide))).1) ?_
              show Steps p.tables e below (T30.setTop (mkF m 108 #[.val (.int p0), .val (.int p1), .val (.int (1 : Int32)), .val (.int v), .val (.int v), .val (.int (endsV v (1 : Int32))), .val (.int (1 : Int32)), .val (.int (1 : Int32))] [])) _
              refine XS.iconst X30.here hx rfl (hb hby at_108) ?_
              show Steps p.tables e below (T30.setTop (mkF m 109 #[.val (.int p0), .val (.int p1), .val (.int (1 : Int32)), .val (.int v), .val (.int v), .val (.int (endsV v (1 : Int32))), .val (.int (1 : Int32)), .val (.int (1 : Int32))] [(.int (1 : Int32))])) _
              refine XS.goto X30.here hx rfl (pc0 := 109) (pc' := 113) rfl (hb hby at_109) (by decide) (by decide) ?_
              show Steps p.tables e below (T30.setTop (mkF m 113 #[.val (.int p0), .val (.int p1), .val (.int (1 : Int32)), .val (.int v), .val (.int v), .val (.int (endsV v (1 : Int32))), .val (.int (1 : Int32)), .val (.int (1 : Int32))] [(.int (1 : Int32))])) _
              exact retN X30 hx (t := .boolean) Bd.returns (by simp) (hb hby at_113) hr
            · show Q0 h0 n0 _ T30.heap _
              rw [e30]
              exact ⟨rfl, N30⟩
          · obtain ⟨_, _, ⟨T31, L31, k31, n31⟩, -, X31, ⟨Lc31, hQ31, l31, y31, z31⟩, st31⟩ := Jvm.LawKit.callS X20 hx (y := (⟨"com/example/inked_rows/inkedrows/xml/Lines", "endsLine", "(CZ)Z"⟩ : MethodName)) hown (mvT hZ (hw _ (List.mem_of_getElem? (i := 4) rfl))) (mvT hZ (hw _ (List.mem_of_getElem? (i := 5) rfl))) (mvT hZ (hw _ (List.mem_of_getElem? (i := 6) rfl))) (mvT hZ (hw _ (List.mem_of_getElem? (i := 7) rfl))) (by decide) (backOf (W := 0) (rm2 l Z a0 hw [] v (0 : Int32) h0 n0 Z0 ) hZ (hw _ (List.mem_of_getElem? (i := 7) rfl)) (hw _ (List.mem_of_getElem? (i := 6) rfl)) (by decide) (by decide)) (g := (mkF m 74 #[.val (.int p0), .val (.int p1), .val (.int (1 : Int32)), .val (.int v), .val (.int v), .val (.int (endsV v (1 : Int32))), .val (.int (0 : Int32)), .unset] [(.int (0 : Int32)), (.int v)])) rfl (by rw [hml]; rfl) (argsL := [(.int v), (.int (0 : Int32))]) (rest := []) (lenOf pd_1 rfl) rfl (by show 2 * 0 + _ ≤ _; exact Nat.le_of_eq rfl) (hb hby at_74) (fun _ _ => ⟨rfl, e20, (by decide : 0 + 0 ≤ _), (by decide : 0 + 0 ≤ _)⟩)
            dsimp only [Pt.U, Pt.locs, Pt.cells, Pt.slots] at X31 l31 y31 z31 st31 hQ31
            subst l31 y31 z31
            obtain ⟨rfl, N31q, e31⟩ := hQ31
            have N31 := Fr.app N20 N31q
            obtain ⟨fs, hr, hrun, hended, hW, hsame⟩ := X31.leave (v := some (.int (1 : Int32))) (fun h => by rw [Bd.returns] at h; cases h)
            refine ⟨_, _, pre29 _ ?_, hrun, hended, _, _, rfl, ?_, ⟨_, rfl⟩, hW, hsame.mono (by decide) (by decide)⟩
            · show Steps p.tables e below (T20.setTop (mkF m 59 #[.val (.int p0), .val (.int p1), .val (.int (1 : Int32)), .val (.int v), .val (.int v), .val (.int (endsV v (1 : Int32))), .unset, .unset] [(.int (8232 : Int32)), (.int v)])) _
              refine XS.icmpYes X20.here hx rfl (pc0 := 59) (pc' := 68) rfl (hb hby at_59) rfl (feq (show ¬ (v = (8232 : Int32)) from hc59)).2 (by decide) (by decide) ?_
              show Steps p.tables e below (T20.setTop (mkF m 68 #[.val (.int p0), .val (.int p1), .val (.int (1 : Int32)), .val (.int v), .val (.int v), .val (.int (endsV v (1 : Int32))), .unset, .unset] [])) _
              refine XS.iconst X20.here hx rfl (hb hby at_68) ?_
              show Steps p.tables e below (T20.setTop (mkF m 69 #[.val (.int p0), .val (.int p1), .val (.int (1 : Int32)), .val (.int v), .val (.int v), .val (.int (endsV v (1 : Int32))), .unset, .unset] [(.int (0 : Int32))])) _
              refine XS.istore X20.here hx rfl (hb hby at_69) rfl (l' := #[.val (.int p0), .val (.int p1), .val (.int (1 : Int32)), .val (.int v), .val (.int v), .val (.int (endsV v (1 : Int32))), .val (.int (0 : Int32)), .unset]) rfl ?_
              show Steps p.tables e below (T20.setTop (mkF m 71 #[.val (.int p0), .val (.int p1), .val (.int (1 : Int32)), .val (.int v), .val (.int v), .val (.int (endsV v (1 : Int32))), .val (.int (0 : Int32)), .unset] [])) _
              refine XS.iload X20.here hx rfl (hb hby at_71) rfl ?_
              show Steps p.tables e below (T20.setTop (mkF m 73 #[.val (.int p0), .val (.int p1), .val (.int (1 : Int32)), .val (.int v), .val (.int v), .val (.int (endsV v (1 : Int32))), .val (.int (0 : Int32)), .unset] [(.int v)])) _
              refine XS.iconst X20.here hx rfl (hb hby at_73) ?_
              show Steps p.tables e below (T20.setTop (mkF m 74 #[.val (.int p0), .val (.int p1), .val (.int (1 : Int32)), .val (.int v), .val (.int v), .val (.int (endsV v (1 : Int32))), .val (.int (0 : Int32)), .unset] [(.int (0 : Int32)), (.int v)])) _
              refine st31 _ ?_
              show Steps p.tables e below (T31.setTop (mkF m 77 #[.val (.int p0), .val (.int p1), .val (.int (1 : Int32)), .val (.int v), .val (.int v), .val (.int (endsV v (1 : Int32))), .val (.int (0 : Int32)), .unset] [(.int (endsV v (0 : Int32)))])) _
              refine XS.ifYes X31.here hx rfl (pc0 := 77) (pc' := 89) rfl (hb hby at_77) rfl ((if0 _ _).trans (teq (show (endsV v (0 : Int32)) = (0 : Int32) from (by rw [endsV, if_neg hc39, if_neg hc33, if_pos rfl]))).1) (by decide) (by decide) ?_
              show Steps p.tables e below (T31.setTop (mkF m 89 #[.val (.int p0), .val (.int p1), .val (.int (1 : Int32)), .val (.int v), .val (.int v), .val (.int (endsV v (1 : Int32))), .val (.int (0 : Int32)), .unset] [])) _
              refine XS.iconst X31.here hx rfl (hb hby at_89) ?_
              show Steps p.tables e below (T31.setTop (mkF m 90 #[.val (.int p0), .val (.int p1), .val (.int (1 : Int32)), .val (.int v), .val (.int v), .val (.int (endsV v (1 : Int32))), .val (.int (0 : Int32)), .unset] [(.int (1 : Int32))])) _
              refine XS.goto X31.here hx rfl (pc0 := 90) (pc' := 94) rfl (hb hby at_90) (by decide) (by decide) ?_
              show Steps p.tables e below (T31.setTop (mkF m 94 #[.val (.int p0), .val (.int p1), .val (.int (1 : Int32)), .val (.int v), .val (.int v), .val (.int (endsV v (1 : Int32))), .val (.int (0 : Int32)), .unset] [(.int (1 : Int32))])) _
              refine XS.istore X31.here hx rfl (hb hby at_94) rfl (l' := #[.val (.int p0), .val (.int p1), .val (.int (1 : Int32)), .val (.int v), .val (.int v), .val (.int (endsV v (1 : Int32))), .val (.int (0 : Int32)), .val (.int (1 : Int32))]) rfl ?_
              show Steps p.tables e below (T31.setTop (mkF m 96 #[.val (.int p0), .val (.int p1), .val (.int (1 : Int32)), .val (.int v), .val (.int v), .val (.int (endsV v (1 : Int32))), .val (.int (0 : Int32)), .val (.int (1 : Int32))] [])) _
              refine XS.iload X31.here hx rfl (hb hby at_96) rfl ?_
              show Steps p.tables e below (T31.setTop (mkF m 98 #[.val (.int p0), .val (.int p1), .val (.int (1 : Int32)), .val (.int v), .val (.int v), .val (.int (endsV v (1 : Int32))), .val (.int (0 : Int32)), .val (.int (1 : Int32))] [(.int (endsV v (1 : Int32)))])) _
              refine XS.iload X31.here hx rfl (hb hby at_98) rfl ?_
              show Steps p.tables e below (T31.setTop (mkF m 100 #[.val (.int p0), .val (.int p1), .val (.int (1 : Int32)), .val (.int v), .val (.int v), .val (.int (endsV v (1 : Int32))), .val (.int (0 : Int32)), .val (.int (1 : Int32))] [(.int (0 : Int32)), (.int (endsV v (1 : Int32)))])) _
              refine XS.icmpNo X31.here hx rfl (hb hby at_100) rfl (teq (show (endsV v (1 : Int32)) = (0 : Int32) from (by rw [endsV, if_neg hc39, if_neg hc33, if_neg (by decide), if_neg hc52, if_neg hc59]))).2 ?_
              show Steps p.tables e below (T31.setTop (mkF m 103 #[.val (.int p0), .val (.int p1), .val (.int (1 : Int32)), .val (.int v), .val (.int v), .val (.int (endsV v (1 : Int32))), .val (.int (0 : Int32)), .val (.int (1 : Int32))] [])) _
              refine XS.iload X31.here hx rfl (hb hby at_103) rfl ?_
              show Steps p.tables e below (T31.setTop (mkF m 105 #[.val (.int p0), .val (.int p1), .val (.int (1 : Int32)), .val (.int v), .val (.int v), .val (.int (endsV v (1 : Int32))), .val (.int (0 : Int32)), .val (.int (1 : Int32))] [(.int (1 : Int32))])) _
              refine XS.ifNo X31.here hx rfl (hb hby at_105) rfl ((if0 _ _).trans (feq (show ¬ ((1 : Int32) = (0 : Int32)) from (by decide))).1) ?_
              show Steps p.tables e below (T31.setTop (mkF m 108 #[.val (.int p0), .val (.int p1), .val (.int (1 : Int32)), .val (.int v), .val (.int v), .val (.int (endsV v (1 : Int32))), .val (.int (0 : Int32)), .val (.int (1 : Int32))] [])) _
              refine XS.iconst X31.here hx rfl (hb hby at_108) ?_
              show Steps p.tables e below (T31.setTop (mkF m 109 #[.val (.int p0), .val (.int p1), .val (.int (1 : Int32)), .val (.int v), .val (.int v), .val (.int (endsV v (1 : Int32))), .val (.int (0 : Int32)), .val (.int (1 : Int32))] [(.int (1 : Int32))])) _
              refine XS.goto X31.here hx rfl (pc0 := 109) (pc' := 113) rfl (hb hby at_109) (by decide) (by decide) ?_
              show Steps p.tables e below (T31.setTop (mkF m 113 #[.val (.int p0), .val (.int p1), .val (.int (1 : Int32)), .val (.int v), .val (.int v), .val (.int (endsV v (1 : Int32))), .val (.int (0 : Int32)), .val (.int (1 : Int32))] [(.int (1 : Int32))])) _
              exact retN X31 hx (t := .boolean) Bd.returns (by simp) (hb hby at_113) hr
            · show Q0 h0 n0 _ T31.heap _
              rw [e31]
              exact ⟨rfl, N31⟩
set_option maxRecDepth 65536 in
set_option maxHeartbeats 40000000 in
theorem comes_1 {Post : Tables → Env → Array Value → State → Outcome → State → Prop} (hpost : ∀ tb e args s v u, (limb_1_1.after args s (.returned v) u = true ∧ limb_1_2.after args s (.returned v) u = true ∧ True) → FrameEnd s (.returned v) u (Jvm.fieldLocs frame_1_writes args s ++ Jvm.arrayLocs frame_1_arrays args s ++ Jvm.staticLocs frame_1_statics s) 0 0 → Post tb e args s (.returned v) u) :
    ArmFor flags0 classFile x code maxLocals ret World_1 tables_1 room_1 Calls_1 rest_1 Pre_1 Post := by
  intro l hfl _ _ p e ha hc hk s m args below hf hA hF happ hP
  obtain ⟨hcalls, hrest, hpre⟩ := hP
  obtain ⟨-, -, -, hnamed, -, -, -, hat⟩ := (Spec.applies_iff hf).mp happ
  obtain ⟨hg, hn⟩ := and_e (Cond.before_iff.mp (show (Jvm.Cond.and given_1 narrow_1).before args s = true from hpre))
  obtain ⟨hcnt, hg1⟩ := and_e hg
  obtain ⟨ha0, hg2⟩ := and_e hg1
  have ha1 := hg2
  obtain ⟨w0, w1, rfl⟩ : ∃ w0 w1 : Value, args = #[w0, w1] := by
    have hs : args.size = 2 := by simpa [Cond.value, given_1] using hcnt
    obtain ⟨L⟩ := args
    match L, hs with
    | [w0, w1], _ => exact ⟨w0, w1, rfl⟩
  have hw := fun d (hd : d ∈ tables_1) => atoms_spec (ws := Jvm.Cond.code x code maxLocals ret :: tables_1) hat d (List.mem_cons_of_mem _ hd)
  have hfit : Fit s := fun {y c} hc i hi => by
    obtain ⟨ha, rfl⟩ := Array.getElem?_eq_some_iff.mp hc
    have q := List.all_eq_true.mp ((Array.all_eq_true_iff_forall_mem.mp hF) _ (Array.getElem_mem ha)) i (List.mem_range.mpr hi)
    simpa [Array.getElem?_eq_getElem hi] using q
  obtain ⟨i0, ei0⟩ := is_v ha0
  obtain rfl : w0 = (.int i0) := Option.some.inj ei0
  obtain ⟨i1, ei1⟩ := is_v ha1
  obtain rfl : w1 = (.int i1) := Option.some.inj ei1
  obtain ⟨n, o, h1, h2, h3, _, L, rfl, ⟨rfl, N⟩, hq⟩ := rm0 l s _ hw tables_1 i0 i1 s.heap s.heap.size (Nat.le_refl _) p e ha hc hk s m _ below hf ((Spec.applies_iff_loose hf).mp happ).1 ⟨rfl, State.Warmed39.refl s, rfl⟩ trivial
  refine ⟨n, _, h1, h2, h3, hpost _ _ _ _ _ _ ⟨Cond.after_iff.mpr rfl, Cond.after_iff.mpr (eq_i res_at (Term.int_eval (1)) rfl), trivial⟩ ⟨hq.1, hq.2.1, (hq.2.2.sift fun y hy => Or.inr (N y hy)).mono (by decide) (by decide)⟩⟩
theorem main_1_1 : Claimed_1_1 := comes_1 fun _ _ _ _ _ _ h hF => ⟨h.1, hF⟩
theorem main_1_2 : Claimed_1_2 := comes_1 fun _ _ _ _ _ _ h hF => ⟨h.2.1, hF⟩
end Jvm.Pilot.@@N@@
namespace Jvm.Pilot.@@N@@
open Jvm Jvm.ClassFile Sem Op Lib Jvm.Free Jvm.Stand Jvm.Pilot.@@N@@.Jvm.D
/-! MADE BY PROGRAM (witnessworld.py) out of the Statement's table words and the real class files: 7 classes; the members and pool entries that the words name. The judged class is class 1, her method 2. -/
namespace start1
open Jvm.ClassFile
def u (s : String) : CpInfo := .utf8 (stringToUtf16 s)
/-- a pool by its gaps: so many unusable entries, then the entry; so many at the end -/
def gap : Nat → List CpInfo → List CpInfo
  | 0, r => r
  | n + 1, r => .unusable :: gap n r
def poolList (es : List (Nat × CpInfo)) (last : Nat) : List CpInfo := es.foldr (fun e r => gap e.1 (e.2 :: r)) (gap last [])
def pool (es : List (Nat × CpInfo)) (last : Nat) : Array CpInfo := ⟨poolList es last⟩
def fileOf (pool : Array CpInfo) (this : Nat) (attrs : Array Attribute := #[]) (ms : Array MethodInfo := #[]) (fl : Nat := 33) (sup : Nat := 0) (ifs : Array Nat := #[]) (fds : Array FieldInfo := #[]) : ClassFile where
  minorVersion := 0
  majorVersion := 65
  constantPool := pool
  accessFlags := fl
  thisClass := this
  superClass := sup
  interfaces := ifs
  fields := fds
  methods := ms
  attributes := attrs
def plain (name : String) (sup : Option ClassId) : Class where
  name := name
  kind := .ordinary
  loader := none
  accessFlags := 33
  super := sup
  interfaces := #[]
  cf := none
  fields := #[]
  methods := #[]
  instanceTypes := #[]
  staticTypes := #[]
  resolved := #[]
  callSites := []
  init := .initialized
  statics := none
  mirror := none

def pool0 : Array CpInfo := pool [(5, u "<init>"), (0, u "()V"), (1, .class_ 10), (1, u "java/lang/Object")] 113

def k0m0 : Method := { name := "<init>", desc := "()V", sig := { parameters := [], returnType := none }, accessFlags := 1, code := none }
/-- java/lang/Object -/
def k0 : Class := { plain "java/lang/Object" none with
  accessFlags := 33
  interfaces := #[]
  cf := some (fileOf pool0 8 #[] #[{ accessFlags := 1, nameIndex := 5, descriptorIndex := 6, attributes := #[] }] 33 0 #[] #[])
  fields := #[]
  methods := #[k0m0]
  instanceTypes := #[]
  staticTypes := #[]
  resolved := Array.replicate 124 none
  statics := none }

def pool1 : Array CpInfo := pool [(2, .class_ 4), (1, u "java/lang/Object"), (0, u "<init>"), (0, u "()V"), (0, .integer 65535), (0, .methodref 9 10), (0, .class_ 11), (0, .nameAndType 12 13), (0, u "com/example/inked_rows/inkedrows/xml/LinesEndsLinePinLaw"), (0, u "pick"), (0, u "(II)I"), (0, .methodref 15 16), (0, .class_ 17), (0, .nameAndType 18 19), (0, u "com/example/inked_rows/inkedrows/xml/Lines"), (0, u "endsLine"), (0, u "(CZ)Z"), (3, u "law"), (0, u "(II)Z")] 2

def k1m0 : Method := { name := "<init>", desc := "()V", sig := { parameters := [], returnType := none }, accessFlags := 2, code := none }
def k1c1 : Code := { maxStack := 2, maxLocals := 3, code := method_2_code, exceptionTable := #[], attributes := #[] }
def k1m1 : Method := { name := "pick", desc := "(II)I", sig := { parameters := [.int, .int], returnType := some .int }, accessFlags := 10, code := some k1c1 }
def k1c2 : Code := { maxStack := 2, maxLocals := 8, code := code, exceptionTable := #[], attributes := #[] }
def k1m2 : Method := { name := "law", desc := "(II)Z", sig := { parameters := [.int, .int], returnType := some .boolean }, accessFlags := 9, code := some k1c2 }
/-- com/example/inked_rows/inkedrows/xml/LinesEndsLinePinLaw -/
def k1 : Class := { plain "com/example/inked_rows/inkedrows/xml/LinesEndsLinePinLaw" (some 0) with
  accessFlags := 49
  interfaces := #[]
  cf := some (fileOf pool1 9 #[] #[{ accessFlags := 2, nameIndex := 5, descriptorIndex := 6, attributes := #[] }, { accessFlags := 10, nameIndex := 12, descriptorIndex := 13, attributes := #[] }, { accessFlags := 9, nameIndex := 23, descriptorIndex := 24, attributes := #[] }] 49 2 #[] #[])
  fields := #[]
  methods := #[k1m0, k1m1, k1m2]
  instanceTypes := #[]
  staticTypes := #[]
  resolved := Array.replicate 27 none
  statics := none }

def pool2 : Array CpInfo := pool [(2, .class_ 4), (1, u "java/lang/Object"), (3, .class_ 10), (1, u "com/example/inked_rows/inkedrows/xml/Lines"), (0, u "number"), (0, u "I"), (2, u "text"), (0, u "Ljava/lang/CharSequence;"), (2, u "xml11"), (0, u "Z"), (2, u "start"), (12, u "endsLine"), (0, u "(CZ)Z")] 11

def k2c0 : Code := { maxStack := 2, maxLocals := 2, code := prog_115_method_3_code, exceptionTable := #[], attributes := #[] }
def k2m0 : Method := { name := "endsLine", desc := "(CZ)Z", sig := { parameters := [.char, .boolean], returnType := some .boolean }, accessFlags := 8, code := some k2c0 }
/-- com/example/inked_rows/inkedrows/xml/Lines -/
def k2 : Class := { plain "com/example/inked_rows/inkedrows/xml/Lines" (some 0) with
  accessFlags := 48
  interfaces := #[]
  cf := some (fileOf pool2 8 #[] #[{ accessFlags := 8, nameIndex := 36, descriptorIndex := 37, attributes := #[] }] 48 2 #[] #[{ accessFlags := 18, nameIndex := 15, descriptorIndex := 16, attributes := #[] }, { accessFlags := 18, nameIndex := 19, descriptorIndex := 20, attributes := #[] }, { accessFlags := 2, nameIndex := 11, descriptorIndex := 12, attributes := #[] }, { accessFlags := 2, nameIndex := 23, descriptorIndex := 12, attributes := #[] }])
  fields := #[{ name := "text", type := (.object "java/lang/CharSequence"), accessFlags := 18, slot := 0, constantValue := 0 }, { name := "xml11", type := .boolean, accessFlags := 18, slot := 1, constantValue := 0 }, { name := "number", type := .int, accessFlags := 2, slot := 2, constantValue := 0 }, { name := "start", type := .int, accessFlags := 2, slot := 3, constantValue := 0 }]
  methods := #[k2m0]
  instanceTypes := #[(.object "java/lang/CharSequence"), .boolean, .int, .int]
  staticTypes := #[]
  resolved := Array.replicate 49 none
  statics := none }

def pool3 : Array CpInfo := pool [(1, u "java/lang/Cloneable"), (0, .class_ 1), (0, u "java/lang/Object"), (0, .class_ 3)] 3

/-- java/lang/Cloneable -/
def k3 : Class := { plain "java/lang/Cloneable" (some 0) with
  accessFlags := 1537
  interfaces := #[]
  cf := some (fileOf pool3 2 #[] #[] 1537 4 #[] #[])
  fields := #[]
  methods := #[]
  instanceTypes := #[]
  staticTypes := #[]
  resolved := Array.replicate 8 none
  statics := none }

def pool4 : Array CpInfo := pool [(1, u "java/io/Serializable"), (0, .class_ 1), (0, u "java/lang/Object"), (0, .class_ 3)] 3

/-- java/io/Serializable -/
def k4 : Class := { plain "java/io/Serializable" (some 0) with
  accessFlags := 1537
  interfaces := #[]
  cf := some (fileOf pool4 2 #[] #[] 1537 4 #[] #[])
  fields := #[]
  methods := #[]
  instanceTypes := #[]
  staticTypes := #[]
  resolved := Array.replicate 8 none
  statics := none }

/-- the primitive byte -/
def k5 : Class := { plain "byte" none with kind := .primitive 'B', accessFlags := 0x411 }
/-- [B -/
def k6 : Class := { plain "[B" (some 0) with kind := .array 5 .byte, interfaces := #[3, 4], accessFlags := 1041 }

def heap : Heap := #[]
def classes : Array Class := #[k0, k1, k2, k3, k4, k5, k6]
def interned : List (Array UInt16 × Addr) := []
def slotsUsed : Nat := 0
def theMethod : MethodId := ⟨1, 2⟩
def args0 : Array Value := #[.int 5, .int 300]
def aboutOver (below : List Frame) : State where
  vm := { classes := classes, interned := interned.toArray }
  heap := heap
  slotsUsed := slotsUsed
  threads := #[{ frames := .invoking theMethod args0 :: below }]
def below0 : List Frame := [.native { method := ⟨0, 0⟩, args := #[] }]
def about1 : State := aboutOver below0
def p0 : Program := .bare "" "" ""
def e0 : Env := launch0.env 0 0 0
theorem w_frames : about1.frames = Frame.invoking theMethod args0 :: below0 := rfl
set_option maxRecDepth 65536 in
theorem w_args : argsFit about1.vm theMethod args0 = true := by decide +kernel
set_option maxRecDepth 65536 in
theorem w_heap : heapFits about1 = true := by decide +kernel
set_option maxRecDepth 65536 in
theorem w_runnable : about1.curStatus? = some .runnable := by decide +kernel
set_option maxRecDepth 65536 in
theorem w_alone : about1.alone = true := by decide +kernel
set_option maxRecDepth 65536 in
theorem w_named : about1.methodNamed? x = some theMethod := by decide +kernel
set_option maxRecDepth 65536 in
theorem w_hears : about1.hears theMethod below0 = true := by decide +kernel
set_option maxRecDepth 65536 in
theorem w_ripe : about1.ripe theMethod args0 below0 = true := by decide +kernel
theorem w_running : about1.status = .running := rfl
set_option maxRecDepth 65536 in
theorem w_room : about1.hasRoom e0.platform room_1 = true :=
  launch0.hasRoom_least _ room_1 (by decide +kernel) (by decide +kernel) (by decide +kernel) (by decide +kernel) (by decide +kernel) (by decide +kernel)
theorem allAtoms_all (ts : List Jvm.Cond) (a : Array Jvm.Value) (st : Jvm.State) : (allAtoms ts).before a st = ts.all (fun c => c.before a st) := by
  induction ts with
  | nil => rfl
  | cons c t ih =>
    show (Jvm.Cond.and c (allAtoms t)).before a st = _
    rw [Jvm.Cond.before_and, ih, List.all_cons]
def words1 : List Jvm.Cond := Jvm.Cond.code x code maxLocals ret :: tables_1
/-- a 'code' word, met by the world's own term for the bytes: nothing is compared byte by byte -/
theorem code_word {y : MethodName} {bytes : ByteArray} {mx : Nat} {rt : Option FieldType} {a : Array Value} {s : State} {m : MethodId} {meth : Method} {c : Code} (h1 : s.methodNamed? y = some m) (h2 : s.vm.method? m = some meth) (h3 : meth.code = some c) (h4 : c.code = bytes)
    (h5 : (c.maxLocals == mx && c.exceptionTable.isEmpty && decide (c.maxStack ≤ mostOperands) && decide (meth.sig.returnType = rt) && !meth.locks && decide (parseMethodDescriptor y.desc = some meth.sig)) = true) : (Jvm.Cond.code y bytes mx rt).before a s = true := by
  simp only [Bool.and_eq_true, beq_iff_eq, Bool.not_eq_true', decide_eq_true_eq] at h5
  obtain ⟨⟨⟨⟨⟨g1, g2⟩, g3⟩, g4⟩, g5⟩, g6⟩ := h5
  simp [Cond.before, Cond.holds, Cond.value, h1, h2, h3, h4, g1, g2, g3, g4, g5, g6]
def isCode : Jvm.Cond → Bool
  | .code _ _ _ _ => true
  | _ => false
theorem all_split {L : List Jvm.Cond} {P : Jvm.Cond → Bool} (h1 : L.all (fun c => isCode c || P c) = true) (h2 : ∀ c ∈ L.filter isCode, P c = true) : L.all P = true := by
  refine List.all_eq_true.mpr fun c hc => ?_
  have h := List.all_eq_true.mp h1 c hc
  rcases Bool.eq_false_or_eq_true (isCode c) with hi | hi
  · exact h2 c (List.mem_filter.mpr ⟨hc, hi⟩)
  · simpa [hi] using h
set_option maxRecDepth 65536 in
theorem w_c0 : (Jvm.Cond.code x code maxLocals ret).before args0 about1 = true := code_word (m := ⟨1, 2⟩) (meth := k1m2) (c := k1c2) (by decide +kernel) rfl rfl rfl (by decide +kernel)
set_option maxRecDepth 65536 in
theorem w_c1 : (Jvm.Cond.code ({ cls := "com/example/inked_rows/inkedrows/xml/LinesEndsLinePinLaw", name := "pick", desc := "(II)I" } : Jvm.MethodName) method_2_code (3 : Nat) (Option.some Jvm.ClassFile.FieldType.int)).before args0 about1 = true := code_word (m := ⟨1, 1⟩) (meth := k1m1) (c := k1c1) (by decide +kernel) rfl rfl rfl (by decide +kernel)
set_option maxRecDepth 65536 in
theorem w_c2 : (Jvm.Cond.code ({ cls := "com/example/inked_rows/inkedrows/xml/Lines", name := "endsLine", desc := "(CZ)Z" } : Jvm.MethodName) prog_115_method_3_code (2 : Nat) (Option.some Jvm.ClassFile.FieldType.boolean)).before args0 about1 = true := code_word (m := ⟨2, 0⟩) (meth := k2m0) (c := k2c0) (by decide +kernel) rfl rfl rfl (by decide +kernel)
def codes1 : List Jvm.Cond := [Jvm.Cond.code x code maxLocals ret, Jvm.Cond.code ({ cls := "com/example/inked_rows/inkedrows/xml/LinesEndsLinePinLaw", name := "pick", desc := "(II)I" } : Jvm.MethodName) method_2_code (3 : Nat) (Option.some Jvm.ClassFile.FieldType.int), Jvm.Cond.code ({ cls := "com/example/inked_rows/inkedrows/xml/Lines", name := "endsLine", desc := "(CZ)Z" } : Jvm.MethodName) prog_115_method_3_code (2 : Nat) (Option.some Jvm.ClassFile.FieldType.boolean)]
set_option maxRecDepth 65536 in
theorem codes_eq : words1.filter isCode = codes1 := rfl
theorem w_codes : ∀ c ∈ words1.filter isCode, c.before args0 about1 = true := by
  rw [codes_eq]
  intro c hc
  simp only [codes1, List.mem_cons, List.not_mem_nil, or_false] at hc
  rcases hc with rfl | rfl | rfl
  · exact w_c0
  · exact w_c1
  · exact w_c2
set_option maxRecDepth 65536 in
theorem w_t1 : words1.all (fun c => isCode c || c.before args0 about1) = true := by decide +kernel
theorem w_tables : (allAtoms (Jvm.Cond.code x code maxLocals ret :: tables_1)).before args0 about1 = true := by
  rw [allAtoms_all]
  show words1.all (fun c => c.before args0 about1) = true
  refine all_split ?_ w_codes
  rw [w_t1]
set_option maxRecDepth 65536 in
theorem w_case : (Jvm.Cond.and given_1 narrow_1).before args0 about1 = true := by decide +kernel
theorem w_applies : (headSpec (Jvm.Cond.code x code maxLocals ret :: tables_1) room_1).applies x e0.platform about1 = true :=
  (Spec.applies_iff w_frames).mpr ⟨w_running, w_runnable, w_alone, w_named, w_hears, w_ripe, w_room, w_tables⟩
theorem atStart : AtStart classFile x code maxLocals ret World_1 tables_1 room_1 Calls_1 rest_1 Pre_1 launch0 p0 e0 about1 theMethod args0 below0 :=
  ⟨lists_1, trivial, launch0.admits_env _ _ _, launch0.least_env, fairChoices_fair.cas, fairChoices_fair.clock, w_frames, w_args, w_heap, w_applies, trivial, trivial, w_case⟩
end start1
theorem witness_1 : WitnessClaimed_1 := ⟨start1.p0, start1.e0, start1.about1, start1.theMethod, start1.args0, start1.below0, start1.atStart⟩
end Jvm.Pilot.@@N@@
