import JvmDerived
import JvmDerived.Pilot.@@N@@Statement
import JvmDerived.Pilot.@@N@@Code
set_option linter.unusedVariables false
set_option linter.unusedSimpArgs false
namespace Jvm.RoadKit
open Sem ClassFile Op Lib Jvm.Stand Jvm.Free Jvm.LawKit
section New
variable {p : Program} {l : Launch} {e : Env} {R : Room} {s : State} {m : MethodId} {args : Array Value} {below : List Frame} {meth : Method} {c : Code} {T : State} {locs : List Loc} {cells slots : Nat}
theorem retI (X : Stand p l e R s m args below meth c T locs cells slots) (hx : p.tables.exec = Jvm.exec) {pc : Nat} {Ls : Array Slot} {z : Int32} {rest : List Value} (hret : meth.sig.returnType = some .int) (hd : decode c.code pc = .ok (.ireturn, 1)) {fs : List Frame}
    (hl : ∀ (f : JFrame) (acts : List Action), f.method = m → f.locked = none → f.entered = [] → (doReturn e (T.setTop f) acts (some (.int z))).1 = T.setFrames fs) : Steps p.tables e below (T.setTop (mkF m pc Ls (.int z :: rest))) (T.setFrames fs) := by
  have hm' : T.vm.method? m = some meth := X.method'
  have hn : narrow .int (.int z) = .int z := rfl
  show Steps p.tables e below (T.setTop { method := m, pc := pc, locals := Ls, stack := _ :: rest, locked := none }) _
  jvm_step X.here [X.here.top, hx, hd, hm', hret, hn]
  first | (intro acts; rw [hl _ acts rfl rfl rfl]) | rw [hl _ _ rfl rfl rfl]
  exact Steps.refl _
end New
end Jvm.RoadKit
namespace Jvm.Pilot.@@N@@
open Jvm Jvm.ClassFile Sem Op Lib Jvm.Free Jvm.Stand Jvm.LawKit Jvm.RoadKit Bundle Jvm.Pilot.@@N@@.Jvm.D
theorem own_eqInt {a : Term} {k : Int32} {args : Array Value} {first s : State} {o : Option Outcome} {idx : List Nat} (h : (Jvm.Cond.eq a (Term.int k)).value args first o s idx = some true) : a.eval args first o idx s = some (.int k) := by
  simp only [Cond.value, Term.eval] at h
  cases ht : a.eval args first o idx s with
  | none => simp [ht] at h
  | some x => cases x <;> simp [ht] at h ⊢; exact h
theorem own_enum {Z : State} {args : Array Value} {C f d : String} {k : Int32} (hE : (Jvm.Cond.exactly (Term.static C f d) C).value args Z none Z [] = some true) (hO : (Jvm.Cond.eq (Term.field (Term.static C f d) "java/lang/Enum" "ordinal" "I") (Term.int k)).value args Z none Z [] = some true)
    (hi : (Jvm.Cond.initialized C).before args Z = true) (hl : (Jvm.Cond.laysStatic C f d).before args Z = true) : ∃ a, Sta Z Z.heap C f d (.ref a) ∧ Exa Z Z.heap a C ∧ Fld Z Z.heap a "java/lang/Enum" "ordinal" "I" (.int k) := by
  obtain ⟨a, ev⟩ := exa_v hE
  exact ⟨a, Sta.start ev (Or.inr ⟨hi, hl⟩), Exa.start ev hE, Fld.start ((fld_at ev).symm.trans (own_eqInt hO))⟩
theorem own_rem (x y : Int32) (hx : 0 ≤ x.toInt) (hy : 0 < y.toInt) : (x - (x / y) * y).toInt = x.toInt % y.toInt := by
  have hx2 := x.toInt_lt
  have hy2 := y.toInt_lt
  have hd : (x / y).toInt = x.toInt / y.toInt := by
    rw [Int32.toInt_div, Int.tdiv_eq_ediv_of_nonneg hx]
    have h1 : 0 ≤ x.toInt / y.toInt := Int.ediv_nonneg hx (Int.le_of_lt hy)
    have h2 : x.toInt / y.toInt ≤ x.toInt := Int.ediv_le_self _ hx
    exact Int.bmod_eq_of_le (by omega) (by omega)
  have hm : ((x / y) * y).toInt = (x.toInt / y.toInt) * y.toInt := by
    rw [Int32.toInt_mul, hd]
    have h1 : 0 ≤ x.toInt / y.toInt * y.toInt := Int.mul_nonneg (Int.ediv_nonneg hx (Int.le_of_lt hy)) (Int.le_of_lt hy)
    have h2 := Int.ediv_mul_le x.toInt (Int.ne_of_gt hy)
    exact Int.bmod_eq_of_le (by omega) (by omega)
  have h3 := Int.emod_add_mul_ediv x.toInt y.toInt
  have h4 := Int.emod_nonneg x.toInt (Int.ne_of_gt hy)
  have h5 := Int.emod_lt_of_pos x.toInt hy
  rw [Int32.toInt_sub, hm]
  have h6 : x.toInt - x.toInt / y.toInt * y.toInt = x.toInt % y.toInt := by rw [Int.mul_comm (x.toInt / y.toInt)]; omega
  rw [h6]
  exact Int.bmod_eq_of_le (by omega) (by omega)
theorem own_and31 (p : Int32) : 0 ≤ (p &&& (2147483647 : Int32)).toInt := by
  have h : (p &&& (2147483647 : Int32)).toBitVec.toNat ≤ 2147483647 := by
    simp only [Int32.toBitVec_and, BitVec.toNat_and]
    exact Nat.and_le_right
  have e : (p &&& (2147483647 : Int32)).toInt = ((p &&& (2147483647 : Int32)).toBitVec.toNat : Int) := BitVec.toInt_eq_toNat_of_lt (by omega)
  omega
theorem own_k12 (p k : Int32) (h : k = ((p &&& (2147483647 : Int32)) - ((p &&& (2147483647 : Int32)) / (13 : Int32)) * (13 : Int32))) (k0 : ¬ k = (0 : Int32)) (k1 : ¬ k = (1 : Int32)) (k2 : ¬ k = (2 : Int32)) (k3 : ¬ k = (3 : Int32)) (k4 : ¬ k = (4 : Int32)) (k5 : ¬ k = (5 : Int32)) (k6 : ¬ k = (6 : Int32)) (k7 : ¬ k = (7 : Int32)) (k8 : ¬ k = (8 : Int32)) (k9 : ¬ k = (9 : Int32)) (k10 : ¬ k = (10 : Int32)) (k11 : ¬ k = (11 : Int32)) : k = (12 : Int32) := by
  have h1 := own_rem (p &&& (2147483647 : Int32)) 13 (own_and31 p) (by decide)
  rw [← h, show (13 : Int32).toInt = 13 from rfl] at h1
  simp only [← Int32.toInt_inj, show (0 : Int32).toInt = 0 from rfl, show (1 : Int32).toInt = 1 from rfl, show (2 : Int32).toInt = 2 from rfl, show (3 : Int32).toInt = 3 from rfl, show (4 : Int32).toInt = 4 from rfl, show (5 : Int32).toInt = 5 from rfl, show (6 : Int32).toInt = 6 from rfl, show (7 : Int32).toInt = 7 from rfl, show (8 : Int32).toInt = 8 from rfl, show (9 : Int32).toInt = 9 from rfl, show (10 : Int32).toInt = 10 from rfl, show (11 : Int32).toInt = 11 from rfl, show (12 : Int32).toInt = 12 from rfl] at *
  omega
def pickV (k : Int32) (b0 b1 b2 b3 b4 b5 b6 b7 b8 b9 b10 b11 b12 : Addr) : Addr := if k = (0 : Int32) then b0 else if k = (1 : Int32) then b1 else if k = (2 : Int32) then b2 else if k = (3 : Int32) then b3 else if k = (4 : Int32) then b4 else if k = (5 : Int32) then b5 else if k = (6 : Int32) then b6 else if k = (7 : Int32) then b7 else if k = (8 : Int32) then b8 else if k = (9 : Int32) then b9 else if k = (10 : Int32) then b10 else if k = (11 : Int32) then b11 else b12
def staysV (o x0 x1 x2 x3 x4 : Addr) : Int32 := if o = x0 then 1 else if o = x1 then 1 else if o = x2 then 1 else if o = x3 then 1 else if o = x4 then 1 else 0
def exV (k : Int32) : Int32 := if k = (2 : Int32) then 1 else if k = (3 : Int32) then 1 else if k = (4 : Int32) then 1 else if k = (5 : Int32) then 1 else if k = (12 : Int32) then 1 else 0
theorem d1_0 : decode method_2_code 0 = .ok (.iload_n 0, 1) := by decide +kernel
theorem d1_1 : decode method_2_code 1 = .ok (.ifCond .ne 7, 3) := by decide +kernel
theorem d1_4 : decode method_2_code 4 = .ok (.getstatic 7, 3) := by decide +kernel
theorem d1_7 : decode method_2_code 7 = .ok (.areturn, 1) := by decide +kernel
theorem d1_8 : decode method_2_code 8 = .ok (.iload_n 0, 1) := by decide +kernel
theorem d1_9 : decode method_2_code 9 = .ok (.iconst 1, 1) := by decide +kernel
theorem d1_10 : decode method_2_code 10 = .ok (.if_icmp .ne 7, 3) := by decide +kernel
theorem d1_13 : decode method_2_code 13 = .ok (.getstatic 13, 3) := by decide +kernel
theorem d1_16 : decode method_2_code 16 = .ok (.areturn, 1) := by decide +kernel
theorem d1_17 : decode method_2_code 17 = .ok (.iload_n 0, 1) := by decide +kernel
theorem d1_18 : decode method_2_code 18 = .ok (.iconst 2, 1) := by decide +kernel
theorem d1_19 : decode method_2_code 19 = .ok (.if_icmp .ne 7, 3) := by decide +kernel
theorem d1_22 : decode method_2_code 22 = .ok (.getstatic 16, 3) := by decide +kernel
theorem d1_25 : decode method_2_code 25 = .ok (.areturn, 1) := by decide +kernel
theorem d1_26 : decode method_2_code 26 = .ok (.iload_n 0, 1) := by decide +kernel
theorem d1_27 : decode method_2_code 27 = .ok (.iconst 3, 1) := by decide +kernel
theorem d1_28 : decode method_2_code 28 = .ok (.if_icmp .ne 7, 3) := by decide +kernel
theorem d1_31 : decode method_2_code 31 = .ok (.getstatic 19, 3) := by decide +kernel
theorem d1_34 : decode method_2_code 34 = .ok (.areturn, 1) := by decide +kernel
theorem d1_35 : decode method_2_code 35 = .ok (.iload_n 0, 1) := by decide +kernel
theorem d1_36 : decode method_2_code 36 = .ok (.iconst 4, 1) := by decide +kernel
theorem d1_37 : decode method_2_code 37 = .ok (.if_icmp .ne 7, 3) := by decide +kernel
theorem d1_40 : decode method_2_code 40 = .ok (.getstatic 22, 3) := by decide +kernel
theorem d1_43 : decode method_2_code 43 = .ok (.areturn, 1) := by decide +kernel
theorem d1_44 : decode method_2_code 44 = .ok (.iload_n 0, 1) := by decide +kernel
theorem d1_45 : decode method_2_code 45 = .ok (.iconst 5, 1) := by decide +kernel
theorem d1_46 : decode method_2_code 46 = .ok (.if_icmp .ne 7, 3) := by decide +kernel
theorem d1_49 : decode method_2_code 49 = .ok (.getstatic 25, 3) := by decide +kernel
theorem d1_52 : decode method_2_code 52 = .ok (.areturn, 1) := by decide +kernel
theorem d1_53 : decode method_2_code 53 = .ok (.iload_n 0, 1) := by decide +kernel
theorem d1_54 : decode method_2_code 54 = .ok (.bipush 6, 2) := by decide +kernel
theorem d1_56 : decode method_2_code 56 = .ok (.if_icmp .ne 7, 3) := by decide +kernel
theorem d1_59 : decode method_2_code 59 = .ok (.getstatic 28, 3) := by decide +kernel
theorem d1_62 : decode method_2_code 62 = .ok (.areturn, 1) := by decide +kernel
theorem d1_63 : decode method_2_code 63 = .ok (.iload_n 0, 1) := by decide +kernel
theorem d1_64 : decode method_2_code 64 = .ok (.bipush 7, 2) := by decide +kernel
theorem d1_66 : decode method_2_code 66 = .ok (.if_icmp .ne 7, 3) := by decide +kernel
theorem d1_69 : decode method_2_code 69 = .ok (.getstatic 31, 3) := by decide +kernel
theorem d1_72 : decode method_2_code 72 = .ok (.areturn, 1) := by decide +kernel
theorem d1_73 : decode method_2_code 73 = .ok (.iload_n 0, 1) := by decide +kernel
theorem d1_74 : decode method_2_code 74 = .ok (.bipush 8, 2) := by decide +kernel
theorem d1_76 : decode method_2_code 76 = .ok (.if_icmp .ne 7, 3) := by decide +kernel
theorem d1_79 : decode method_2_code 79 = .ok (.getstatic 34, 3) := by decide +kernel
theorem d1_82 : decode method_2_code 82 = .ok (.areturn, 1) := by decide +kernel
theorem d1_83 : decode method_2_code 83 = .ok (.iload_n 0, 1) := by decide +kernel
theorem d1_84 : decode method_2_code 84 = .ok (.bipush 9, 2) := by decide +kernel
theorem d1_86 : decode method_2_code 86 = .ok (.if_icmp .ne 7, 3) := by decide +kernel
theorem d1_89 : decode method_2_code 89 = .ok (.getstatic 37, 3) := by decide +kernel
theorem d1_92 : decode method_2_code 92 = .ok (.areturn, 1) := by decide +kernel
theorem d1_93 : decode method_2_code 93 = .ok (.iload_n 0, 1) := by decide +kernel
theorem d1_94 : decode method_2_code 94 = .ok (.bipush 10, 2) := by decide +kernel
theorem d1_96 : decode method_2_code 96 = .ok (.if_icmp .ne 7, 3) := by decide +kernel
theorem d1_99 : decode method_2_code 99 = .ok (.getstatic 40, 3) := by decide +kernel
theorem d1_102 : decode method_2_code 102 = .ok (.areturn, 1) := by decide +kernel
theorem d1_103 : decode method_2_code 103 = .ok (.iload_n 0, 1) := by decide +kernel
theorem d1_104 : decode method_2_code 104 = .ok (.bipush 11, 2) := by decide +kernel
theorem d1_106 : decode method_2_code 106 = .ok (.if_icmp .ne 7, 3) := by decide +kernel
theorem d1_109 : decode method_2_code 109 = .ok (.getstatic 43, 3) := by decide +kernel
theorem d1_112 : decode method_2_code 112 = .ok (.areturn, 1) := by decide +kernel
theorem d1_113 : decode method_2_code 113 = .ok (.getstatic 46, 3) := by decide +kernel
theorem d1_116 : decode method_2_code 116 = .ok (.areturn, 1) := by decide +kernel
theorem pn_0 : plainName "com/example/inked_rows/inkedrows/xpath/AxisStaysInSubtreePinLaw" = true := by first | (simp [plainName, overriddenIn]; done) | decide +kernel
theorem ef_1 (m : MethodId) (p0 : Int32) : entryFrame m #[(.int p0)] 1 = mkF m 0 #[.val (.int p0)] [] := by first | (simp [entryFrame, mkF, argsToLocals, Value.category]; done) | rfl
def Q1 (p0 : Int32) (b0 b1 b2 b3 b4 b5 b6 b7 b8 b9 b10 b11 b12 : Addr) (h0 : Heap) (n0 : Nat) (v : Option Value) (h : Heap) (L : List Loc) : Prop := v = some (.ref (pickV p0 b0 b1 b2 b3 b4 b5 b6 b7 b8 b9 b10 b11 b12)) ∧ Fr n0 L ∧ h = h0
set_option maxRecDepth 65536 in
set_option maxHeartbeats 40000000 in
theorem rm1 (l : Launch) (Z : State) (a0 : Array Value) (hw : ∀ d ∈ tables_1, d.before a0 Z = true) (ws : List Jvm.Cond) (p0 : Int32) (b0 b1 b2 b3 b4 b5 b6 b7 b8 b9 b10 b11 b12 : Addr) (h0 : Heap) (n0 : Nat) (Z0 : n0 ≤ h0.size) (S0 : Sta Z h0 "com/example/inked_rows/inkedrows/xpath/Axis" "ANCESTOR" "Lcom/example/inked_rows/inkedrows/xpath/Axis;" (.ref b0)) (S1 : Sta Z h0 "com/example/inked_rows/inkedrows/xpath/Axis" "ANCESTOR_OR_SELF" "Lcom/example/inked_rows/inkedrows/xpath/Axis;" (.ref b1)) (S2 : Sta Z h0 "com/example/inked_rows/inkedrows/xpath/Axis" "ATTRIBUTE" "Lcom/example/inked_rows/inkedrows/xpath/Axis;" (.ref b2)) (S3 : Sta Z h0 "com/example/inked_rows/inkedrows/xpath/Axis" "CHILD" "Lcom/example/inked_rows/inkedrows/xpath/Axis;" (.ref b3)) (S4 : Sta Z h0 "com/example/inked_rows/inkedrows/xpath/Axis" "DESCENDANT" "Lcom/example/inked_rows/inkedrows/xpath/Axis;" (.ref b4)) (S5 : Sta Z h0 "com/example/inked_rows/inkedrows/xpath/Axis" "DESCENDANT_OR_SELF" "Lcom/example/inked_rows/inkedrows/xpath/Axis;" (.ref b5)) (S6 : Sta Z h0 "com/example/inked_rows/inkedrows/xpath/Axis" "FOLLOWING" "Lcom/example/inked_rows/inkedrows/xpath/Axis;" (.ref b6)) (S7 : Sta Z h0 "com/example/inked_rows/inkedrows/xpath/Axis" "FOLLOWING_SIBLING" "Lcom/example/inked_rows/inkedrows/xpath/Axis;" (.ref b7)) (S8 : Sta Z h0 "com/example/inked_rows/inkedrows/xpath/Axis" "NAMESPACE" "Lcom/example/inked_rows/inkedrows/xpath/Axis;" (.ref b8)) (S9 : Sta Z h0 "com/example/inked_rows/inkedrows/xpath/Axis" "PARENT" "Lcom/example/inked_rows/inkedrows/xpath/Axis;" (.ref b9)) (S10 : Sta Z h0 "com/example/inked_rows/inkedrows/xpath/Axis" "PRECEDING" "Lcom/example/inked_rows/inkedrows/xpath/Axis;" (.ref b10)) (S11 : Sta Z h0 "com/example/inked_rows/inkedrows/xpath/Axis" "PRECEDING_SIBLING" "Lcom/example/inked_rows/inkedrows/xpath/Axis;" (.ref b11)) (S12 : Sta Z h0 "com/example/inked_rows/inkedrows/xpath/Axis" "SELF" "Lcom/example/inked_rows/inkedrows/xpath/Axis;" (.ref b12)) :
    MetFree l (⟨"com/example/inked_rows/inkedrows/xpath/AxisStaysInSubtreePinLaw", "pick", "(I)Lcom/example/inked_rows/inkedrows/xpath/Axis;"⟩ : MethodName) (head1 (Jvm.Cond.code (⟨"com/example/inked_rows/inkedrows/xpath/AxisStaysInSubtreePinLaw", "pick", "(I)Lcom/example/inked_rows/inkedrows/xpath/Axis;"⟩ : MethodName) method_2_code 1 (some (.object "com/example/inked_rows/inkedrows/xpath/Axis")) :: ws) ({ frames := 0, cells := 0, slots := 0, locals := 0 } : Room)) (fun a U => a = #[(.int p0)] ∧ Z.Warmed39 U.vm ∧ U.heap = h0) (fun _ _ _ _ _ => True) (fun _ U o U' => ∃ v L, o = .returned v ∧ Q1 p0 b0 b1 b2 b3 b4 b5 b6 b7 b8 b9 b10 b11 b12 h0 n0 v U'.heap L ∧ FrameEnd U o U' L ({ frames := 0, cells := 0, slots := 0, locals := 0 } : Room).cells ({ frames := 0, cells := 0, slots := 0, locals := 0 } : Room).slots) := by
  refine MetFree.of_bodySF (plainFor_of_name pn_0) hisR ?_
  intro p e s m args below meth c s₁ Bd hml0 hP hK
  obtain ⟨rfl, hZ, hh⟩ := hP
  have hx := Bd.exec
  have hby := Bd.bytes
  have hml : c.maxLocals = 1 := hml0
  have hown : s.vm.findClass "com/example/inked_rows/inkedrows/xpath/AxisStaysInSubtreePinLaw" = some m.cls := findClass_of_methodNamed Bd.named
  have hnm := (name_of_methodNamed Bd.named Bd.method).1
  have X0 : Stand p l e ({ frames := 0, cells := 0, slots := 0, locals := 0 } : Room) s m #[(.int p0)] below meth c s₁ [] 0 0 := Stand.of_body Bd
  have e0 : s₁.heap = h0 := by rw [← hh, Bd.state]; rfl
  have N0 := Fr.nil n0
  have pre0 : ∀ t, Steps p.tables e below (s₁.setTop (mkF m 0 #[.val (.int p0)] [])) t → Steps p.tables e below (s₁.setTop (entryFrame m #[(.int p0)] 1)) t := fun t k => castTop (ef_1 m p0) k
  have pre1 : ∀ t, Steps p.tables e below (s₁.setTop (mkF m 1 #[.val (.int p0)] [(.int p0)])) t → Steps p.tables e below (s₁.setTop (entryFrame m #[(.int p0)] 1)) t := fun t kt => pre0 t (by
      show Steps p.tables e below (s₁.setTop (mkF m 0 #[.val (.int p0)] [])) _
      refine XS.iloadN X0.here hx rfl (hb hby d1_0) rfl ?_
      exact kt)
  by_cases hc1 : p0 = (0 : Int32)
  · obtain ⟨T2, X2, e2, st2⟩ := getS2 X0 hx hZ hown (host := "") (Or.inl (hw _ (List.mem_of_getElem? (i := 5) rfl))) Via.refl e0 S0 (g := (mkF m 4 #[.val (.int p0)] [])) rfl (hb hby d1_4)
    obtain ⟨fs, hr, hrun, hended, hW, hsame⟩ := X2.leave (v := some (.ref b0)) (fun h => by rw [Bd.returns] at h; cases h)
    refine ⟨_, _, pre1 _ ?_, hrun, hended, _, _, rfl, ?_, ⟨_, rfl⟩, hW, hsame.mono (by decide) (by decide)⟩
    · show Steps p.tables e below (s₁.setTop (mkF m 1 #[.val (.int p0)] [(.int p0)])) _
      refine XS.ifNo X0.here hx rfl (hb hby d1_1) rfl ((if0 _ _).trans (teq (show p0 = (0 : Int32) from hc1)).2) ?_
      show Steps p.tables e below (s₁.setTop (mkF m 4 #[.val (.int p0)] [])) _
      refine st2 _ ?_
      show Steps p.tables e below (T2.setTop (mkF m 7 #[.val (.int p0)] [(.ref b0)])) _
      jvm_step X2.here [X2.here.top, hx, (hb hby d1_7), X2.method', Bd.returns, Value.isRef, FieldType.isReference]
      first | (intro acts; rw [hr _ acts rfl rfl rfl]) | rw [hr _ _ rfl rfl rfl]
      exact Steps.refl _
    · show Q1 p0 b0 b1 b2 b3 b4 b5 b6 b7 b8 b9 b10 b11 b12 h0 n0 _ T2.heap _
      rw [e2]
      exact ⟨(by rw [pickV, if_pos hc1]), N0, rfl⟩
  · have pre3 : ∀ t, Steps p.tables e below (s₁.setTop (mkF m 10 #[.val (.int p0)] [(.int (1 : Int32)), (.int p0)])) t → Steps p.tables e below (s₁.setTop (entryFrame m #[(.int p0)] 1)) t := fun t kt => pre1 t (by
        show Steps p.tables e below (s₁.setTop (mkF m 1 #[.val (.int p0)] [(.int p0)])) _
        refine XS.ifYes X0.here hx rfl (pc0 := 1) (pc' := 8) rfl (hb hby d1_1) rfl ((if0 _ _).trans (feq (show ¬ (p0 = (0 : Int32)) from hc1)).2) (by decide) (by decide) ?_
        show Steps p.tables e below (s₁.setTop (mkF m 8 #[.val (.int p0)] [])) _
        refine XS.iloadN X0.here hx rfl (hb hby d1_8) rfl ?_
        show Steps p.tables e below (s₁.setTop (mkF m 9 #[.val (.int p0)] [(.int p0)])) _
        refine XS.iconst X0.here hx rfl (hb hby d1_9) ?_
        exact kt)
    by_cases hc10 : p0 = (1 : Int32)
    · obtain ⟨T4, X4, e4, st4⟩ := getS2 X0 hx hZ hown (host := "") (Or.inl (hw _ (List.mem_of_getElem? (i := 37) rfl))) Via.refl e0 S1 (g := (mkF m 13 #[.val (.int p0)] [])) rfl (hb hby d1_13)
      obtain ⟨fs, hr, hrun, hended, hW, hsame⟩ := X4.leave (v := some (.ref b1)) (fun h => by rw [Bd.returns] at h; cases h)
      refine ⟨_, _, pre3 _ ?_, hrun, hended, _, _, rfl, ?_, ⟨_, rfl⟩, hW, hsame.mono (by decide) (by decide)⟩
      · show Steps p.tables e below (s₁.setTop (mkF m 10 #[.val (.int p0)] [(.int (1 : Int32)), (.int p0)])) _
        refine XS.icmpNo X0.here hx rfl (hb hby d1_10) rfl (teq (show p0 = (1 : Int32) from hc10)).2 ?_
        show Steps p.tables e below (s₁.setTop (mkF m 13 #[.val (.int p0)] [])) _
        refine st4 _ ?_
        show Steps p.tables e below (T4.setTop (mkF m 16 #[.val (.int p0)] [(.ref b1)])) _
        jvm_step X4.here [X4.here.top, hx, (hb hby d1_16), X4.method', Bd.returns, Value.isRef, FieldType.isReference]
        first | (intro acts; rw [hr _ acts rfl rfl rfl]) | rw [hr _ _ rfl rfl rfl]
        exact Steps.refl _
      · show Q1 p0 b0 b1 b2 b3 b4 b5 b6 b7 b8 b9 b10 b11 b12 h0 n0 _ T4.heap _
        rw [e4]
        exact ⟨(by rw [pickV, if_neg hc1, if_pos hc10]), N0, rfl⟩
    · have pre5 : ∀ t, Steps p.tables e below (s₁.setTop (mkF m 19 #[.val (.int p0)] [(.int (2 : Int32)), (.int p0)])) t → Steps p.tables e below (s₁.setTop (entryFrame m #[(.int p0)] 1)) t := fun t kt => pre3 t (by
          show Steps p.tables e below (s₁.setTop (mkF m 10 #[.val (.int p0)] [(.int (1 : Int32)), (.int p0)])) _
          refine XS.icmpYes X0.here hx rfl (pc0 := 10) (pc' := 17) rfl (hb hby d1_10) rfl (feq (show ¬ (p0 = (1 : Int32)) from hc10)).2 (by decide) (by decide) ?_
          show Steps p.tables e below (s₁.setTop (mkF m 17 #[.val (.int p0)] [])) _
          refine XS.iloadN X0.here hx rfl (hb hby d1_17) rfl ?_
          show Steps p.tables e below (s₁.setTop (mkF m 18 #[.val (.int p0)] [(.int p0)])) _
          refine XS.iconst X0.here hx rfl (hb hby d1_18) ?_
          exact kt)
      by_cases hc19 : p0 = (2 : Int32)
      · obtain ⟨T6, X6, e6, st6⟩ := getS2 X0 hx hZ hown (host := "") (Or.inl (hw _ (List.mem_of_getElem? (i := 34) rfl))) Via.refl e0 S2 (g := (mkF m 22 #[.val (.int p0)] [])) rfl (hb hby d1_22)
        obtain ⟨fs, hr, hrun, hended, hW, hsame⟩ := X6.leave (v := some (.ref b2)) (fun h => by rw [Bd.returns] at h; cases h)
        refine ⟨_, _, pre5 _ ?_, hrun, hended, _, _, rfl, ?_, ⟨_, rfl⟩, hW, hsame.mono (by decide) (by decide)⟩
        · show Steps p.tables e below (s₁.setTop (mkF m 19 #[.val (.int p0)] [(.int (2 : Int32)), (.int p0)])) _
          refine XS.icmpNo X0.here hx rfl (hb hby d1_19) rfl (teq (show p0 = (2 : Int32) from hc19)).2 ?_
          show Steps p.tables e below (s₁.setTop (mkF m 22 #[.val (.int p0)] [])) _
          refine st6 _ ?_
          show Steps p.tables e below (T6.setTop (mkF m 25 #[.val (.int p0)] [(.ref b2)])) _
          jvm_step X6.here [X6.here.top, hx, (hb hby d1_25), X6.method', Bd.returns, Value.isRef, FieldType.isReference]
          first | (intro acts; rw [hr _ acts rfl rfl rfl]) | rw [hr _ _ rfl rfl rfl]
          exact Steps.refl _
        · show Q1 p0 b0 b1 b2 b3 b4 b5 b6 b7 b8 b9 b10 b11 b12 h0 n0 _ T6.heap _
          rw [e6]
          exact ⟨(by rw [pickV, if_neg hc1, if_neg hc10, if_pos hc19]), N0, rfl⟩
      · have pre7 : ∀ t, Steps p.tables e below (s₁.setTop (mkF m 28 #[.val (.int p0)] [(.int (3 : Int32)), (.int p0)])) t → Steps p.tables e below (s₁.setTop (entryFrame m #[(.int p0)] 1)) t := fun t kt => pre5 t (by
            show Steps p.tables e below (s₁.setTop (mkF m 19 #[.val (.int p0)] [(.int (2 : Int32)), (.int p0)])) _
            refine XS.icmpYes X0.here hx rfl (pc0 := 19) (pc' := 26) rfl (hb hby d1_19) rfl (feq (show ¬ (p0 = (2 : Int32)) from hc19)).2 (by decide) (by decide) ?_
            show Steps p.tables e below (s₁.setTop (mkF m 26 #[.val (.int p0)] [])) _
            refine XS.iloadN X0.here hx rfl (hb hby d1_26) rfl ?_
            show Steps p.tables e below (s₁.setTop (mkF m 27 #[.val (.int p0)] [(.int p0)])) _
            refine XS.iconst X0.here hx rfl (hb hby d1_27) ?_
            exact kt)
        by_cases hc28 : p0 = (3 : Int32)
        · obtain ⟨T8, X8, e8, st8⟩ := getS2 X0 hx hZ hown (host := "") (Or.inl (hw _ (List.mem_of_getElem? (i := 26) rfl))) Via.refl e0 S3 (g := (mkF m 31 #[.val (.int p0)] [])) rfl (hb hby d1_31)
          obtain ⟨fs, hr, hrun, hended, hW, hsame⟩ := X8.leave (v := some (.ref b3)) (fun h => by rw [Bd.returns] at h; cases h)
          refine ⟨_, _, pre7 _ ?_, hrun, hended, _, _, rfl, ?_, ⟨_, rfl⟩, hW, hsame.mono (by decide) (by decide)⟩
          · show Steps p.tables e below (s₁.setTop (mkF m 28 #[.val (.int p0)] [(.int (3 : Int32)), (.int p0)])) _
            refine XS.icmpNo X0.here hx rfl (hb hby d1_28) rfl (teq (show p0 = (3 : Int32) from hc28)).2 ?_
            show Steps p.tables e below (s₁.setTop (mkF m 31 #[.val (.int p0)] [])) _
            refine st8 _ ?_
            show Steps p.tables e below (T8.setTop (mkF m 34 #[.val (.int p0)] [(.ref b3)])) _
            jvm_step X8.here [X8.here.top, hx, (hb hby d1_34), X8.method', Bd.returns, Value.isRef, FieldType.isReference]
            first | (intro acts; rw [hr _ acts rfl rfl rfl]) | rw [hr _ _ rfl rfl rfl]
            exact Steps.refl _
          · show Q1 p0 b0 b1 b2 b3 b4 b5 b6 b7 b8 b9 b10 b11 b12 h0 n0 _ T8.heap _
            rw [e8]
            exact ⟨(by rw [pickV, if_neg hc1, if_neg hc10, if_neg hc19, if_pos hc28]), N0, rfl⟩
        · have pre9 : ∀ t, Steps p.tables e below (s₁.setTop (mkF m 37 #[.val (.int p0)] [(.int (4 : Int32)), (.int p0)])) t → Steps p.tables e below (s₁.setTop (entryFrame m #[(.int p0)] 1)) t := fun t kt => pre7 t (by
              show Steps p.tables e below (s₁.setTop (mkF m 28 #[.val (.int p0)] [(.int (3 : Int32)), (.int p0)])) _
              refine XS.icmpYes X0.here hx rfl (pc0 := 28) (pc' := 35) rfl (hb hby d1_28) rfl (feq (show ¬ (p0 = (3 : Int32)) from hc28)).2 (by decide) (by decide) ?_
              show Steps p.tables e below (s₁.setTop (mkF m 35 #[.val (.int p0)] [])) _
              refine XS.iloadN X0.here hx rfl (hb hby d1_35) rfl ?_
              show Steps p.tables e below (s₁.setTop (mkF m 36 #[.val (.int p0)] [(.int p0)])) _
              refine XS.iconst X0.here hx rfl (hb hby d1_36) ?_
              exact kt)
          by_cases hc37 : p0 = (4 : Int32)
          · obtain ⟨T10, X10, e10, st10⟩ := getS2 X0 hx hZ hown (host := "") (Or.inl (hw _ (List.mem_of_getElem? (i := 44) rfl))) Via.refl e0 S4 (g := (mkF m 40 #[.val (.int p0)] [])) rfl (hb hby d1_40)
            obtain ⟨fs, hr, hrun, hended, hW, hsame⟩ := X10.leave (v := some (.ref b4)) (fun h => by rw [Bd.returns] at h; cases h)
            refine ⟨_, _, pre9 _ ?_, hrun, hended, _, _, rfl, ?_, ⟨_, rfl⟩, hW, hsame.mono (by decide) (by decide)⟩
            · show Steps p.tables e below (s₁.setTop (mkF m 37 #[.val (.int p0)] [(.int (4 : Int32)), (.int p0)])) _
              refine XS.icmpNo X0.here hx rfl (hb hby d1_37) rfl (teq (show p0 = (4 : Int32) from hc37)).2 ?_
              show Steps p.tables e below (s₁.setTop (mkF m 40 #[.val (.int p0)] [])) _
              refine st10 _ ?_
              show Steps p.tables e below (T10.setTop (mkF m 43 #[.val (.int p0)] [(.ref b4)])) _
              jvm_step X10.here [X10.here.top, hx, (hb hby d1_43), X10.method', Bd.returns, Value.isRef, FieldType.isReference]
              first | (intro acts; rw [hr _ acts rfl rfl rfl]) | rw [hr _ _ rfl rfl rfl]
              exact Steps.refl _
            · show Q1 p0 b0 b1 b2 b3 b4 b5 b6 b7 b8 b9 b10 b11 b12 h0 n0 _ T10.heap _
              rw [e10]
              exact ⟨(by rw [pickV, if_neg hc1, if_neg hc10, if_neg hc19, if_neg hc28, if_pos hc37]), N0, rfl⟩
          · have pre11 : ∀ t, Steps p.tables e below (s₁.setTop (mkF m 46 #[.val (.int p0)] [(.int (5 : Int32)), (.int p0)])) t → Steps p.tables e below (s₁.setTop (entryFrame m #[(.int p0)] 1)) t := fun t kt => pre9 t (by
                show Steps p.tables e below (s₁.setTop (mkF m 37 #[.val (.int p0)] [(.int (4 : Int32)), (.int p0)])) _
                refine XS.icmpYes X0.here hx rfl (pc0 := 37) (pc' := 44) rfl (hb hby d1_37) rfl (feq (show ¬ (p0 = (4 : Int32)) from hc37)).2 (by decide) (by decide) ?_
                show Steps p.tables e below (s₁.setTop (mkF m 44 #[.val (.int p0)] [])) _
                refine XS.iloadN X0.here hx rfl (hb hby d1_44) rfl ?_
                show Steps p.tables e below (s₁.setTop (mkF m 45 #[.val (.int p0)] [(.int p0)])) _
                refine XS.iconst X0.here hx rfl (hb hby d1_45) ?_
                exact kt)
            by_cases hc46 : p0 = (5 : Int32)
            · obtain ⟨T12, X12, e12, st12⟩ := getS2 X0 hx hZ hown (host := "") (Or.inl (hw _ (List.mem_of_getElem? (i := 29) rfl))) Via.refl e0 S5 (g := (mkF m 49 #[.val (.int p0)] [])) rfl (hb hby d1_49)
              obtain ⟨fs, hr, hrun, hended, hW, hsame⟩ := X12.leave (v := some (.ref b5)) (fun h => by rw [Bd.returns] at h; cases h)
              refine ⟨_, _, pre11 _ ?_, hrun, hended, _, _, rfl, ?_, ⟨_, rfl⟩, hW, hsame.mono (by decide) (by decide)⟩
              · show Steps p.tables e below (s₁.setTop (mkF m 46 #[.val (.int p0)] [(.int (5 : Int32)), (.int p0)])) _
                refine XS.icmpNo X0.here hx rfl (hb hby d1_46) rfl (teq (show p0 = (5 : Int32) from hc46)).2 ?_
                show Steps p.tables e below (s₁.setTop (mkF m 49 #[.val (.int p0)] [])) _
                refine st12 _ ?_
                show Steps p.tables e below (T12.setTop (mkF m 52 #[.val (.int p0)] [(.ref b5)])) _
                jvm_step X12.here [X12.here.top, hx, (hb hby d1_52), X12.method', Bd.returns, Value.isRef, FieldType.isReference]
                first | (intro acts; rw [hr _ acts rfl rfl rfl]) | rw [hr _ _ rfl rfl rfl]
                exact Steps.refl _
              · show Q1 p0 b0 b1 b2 b3 b4 b5 b6 b7 b8 b9 b10 b11 b12 h0 n0 _ T12.heap _
                rw [e12]
                exact ⟨(by rw [pickV, if_neg hc1, if_neg hc10, if_neg hc19, if_neg hc28, if_neg hc37, if_pos hc46]), N0, rfl⟩
            · have pre13 : ∀ t, Steps p.tables e below (s₁.setTop (mkF m 56 #[.val (.int p0)] [(.int (6 : Int32)), (.int p0)])) t → Steps p.tables e below (s₁.setTop (entryFrame m #[(.int p0)] 1)) t := fun t kt => pre11 t (by
                  show Steps p.tables e below (s₁.setTop (mkF m 46 #[.val (.int p0)] [(.int (5 : Int32)), (.int p0)])) _
                  refine XS.icmpYes X0.here hx rfl (pc0 := 46) (pc' := 53) rfl (hb hby d1_46) rfl (feq (show ¬ (p0 = (5 : Int32)) from hc46)).2 (by decide) (by decide) ?_
                  show Steps p.tables e below (s₁.setTop (mkF m 53 #[.val (.int p0)] [])) _
                  refine XS.iloadN X0.here hx rfl (hb hby d1_53) rfl ?_
                  show Steps p.tables e below (s₁.setTop (mkF m 54 #[.val (.int p0)] [(.int p0)])) _
                  refine XS.bipush X0.here hx rfl (hb hby d1_54) ?_
                  exact kt)
              by_cases hc56 : p0 = (6 : Int32)
              · obtain ⟨T14, X14, e14, st14⟩ := getS2 X0 hx hZ hown (host := "") (Or.inl (hw _ (List.mem_of_getElem? (i := 27) rfl))) Via.refl e0 S6 (g := (mkF m 59 #[.val (.int p0)] [])) rfl (hb hby d1_59)
                obtain ⟨fs, hr, hrun, hended, hW, hsame⟩ := X14.leave (v := some (.ref b6)) (fun h => by rw [Bd.returns] at h; cases h)
                refine ⟨_, _, pre13 _ ?_, hrun, hended, _, _, rfl, ?_, ⟨_, rfl⟩, hW, hsame.mono (by decide) (by decide)⟩
                · show Steps p.tables e below (s₁.setTop (mkF m 56 #[.val (.int p0)] [(.int (6 : Int32)), (.int p0)])) _
                  refine XS.icmpNo X0.here hx rfl (hb hby d1_56) rfl (teq (show p0 = (6 : Int32) from hc56)).2 ?_
                  show Steps p.tables e below (s₁.setTop (mkF m 59 #[.val (.int p0)] [])) _
                  refine st14 _ ?_
                  show Steps p.tables e below (T14.setTop (mkF m 62 #[.val (.int p0)] [(.ref b6)])) _
                  jvm_step X14.here [X14.here.top, hx, (hb hby d1_62), X14.method', Bd.returns, Value.isRef, FieldType.isReference]
                  first | (intro acts; rw [hr _ acts rfl rfl rfl]) | rw [hr _ _ rfl rfl rfl]
                  exact Steps.refl _
                · show Q1 p0 b0 b1 b2 b3 b4 b5 b6 b7 b8 b9 b10 b11 b12 h0 n0 _ T14.heap _
                  rw [e14]
                  exact ⟨(by rw [pickV, if_neg hc1, if_neg hc10, if_neg hc19, if_neg hc28, if_neg hc37, if_neg hc46, if_pos hc56]), N0, rfl⟩
              · have pre15 : ∀ t, Steps p.tables e below (s₁.setTop (mkF m 66 #[.val (.int p0)] [(.int (7 : Int32)), (.int p0)])) t → Steps p.tables e below (s₁.setTop (entryFrame m #[(.int p0)] 1)) t := fun t kt => pre13 t (by
                    show Steps p.tables e below (s₁.setTop (mkF m 56 #[.val (.int p0)] [(.int (6 : Int32)), (.int p0)])) _
                    refine XS.icmpYes X0.here hx rfl (pc0 := 56) (pc' := 63) rfl (hb hby d1_56) rfl (feq (show ¬ (p0 = (6 : Int32)) from hc56)).2 (by decide) (by decide) ?_
                    show Steps p.tables e below (s₁.setTop (mkF m 63 #[.val (.int p0)] [])) _
                    refine XS.iloadN X0.here hx rfl (hb hby d1_63) rfl ?_
                    show Steps p.tables e below (s₁.setTop (mkF m 64 #[.val (.int p0)] [(.int p0)])) _
                    refine XS.bipush X0.here hx rfl (hb hby d1_64) ?_
                    exact kt)
                by_cases hc66 : p0 = (7 : Int32)
                · obtain ⟨T16, X16, e16, st16⟩ := getS2 X0 hx hZ hown (host := "") (Or.inl (hw _ (List.mem_of_getElem? (i := 30) rfl))) Via.refl e0 S7 (g := (mkF m 69 #[.val (.int p0)] [])) rfl (hb hby d1_69)
                  obtain ⟨fs, hr, hrun, hended, hW, hsame⟩ := X16.leave (v := some (.ref b7)) (fun h => by rw [Bd.returns] at h; cases h)
                  refine ⟨_, _, pre15 _ ?_, hrun, hended, _, _, rfl, ?_, ⟨_, rfl⟩, hW, hsame.mono (by decide) (by decide)⟩
                  · show Steps p.tables e below (s₁.setTop (mkF m 66 #[.val (.int p0)] [(.int (7 : Int32)), (.int p0)])) _
                    refine XS.icmpNo X0.here hx rfl (hb hby d1_66) rfl (teq (show p0 = (7 : Int32) from hc66)).2 ?_
                    show Steps p.tables e below (s₁.setTop (mkF m 69 #[.val (.int p0)] [])) _
                    refine st16 _ ?_
                    show Steps p.tables e below (T16.setTop (mkF m 72 #[.val (.int p0)] [(.ref b7)])) _
                    jvm_step X16.here [X16.here.top, hx, (hb hby d1_72), X16.method', Bd.returns, Value.isRef, FieldType.isReference]
                    first | (intro acts; rw [hr _ acts rfl rfl rfl]) | rw [hr _ _ rfl rfl rfl]
                    exact Steps.refl _
                  · show Q1 p0 b0 b1 b2 b3 b4 b5 b6 b7 b8 b9 b10 b11 b12 h0 n0 _ T16.heap _
                    rw [e16]
                    exact ⟨(by rw [pickV, if_neg hc1, if_neg hc10, if_neg hc19, if_neg hc28, if_neg hc37, if_neg hc46, if_neg hc56, if_pos hc66]), N0, rfl⟩
                · have pre17 : ∀ t, Steps p.tables e below (s₁.setTop (mkF m 76 #[.val (.int p0)] [(.int (8 : Int32)), (.int p0)])) t → Steps p.tables e below (s₁.setTop (entryFrame m #[(.int p0)] 1)) t := fun t kt => pre15 t (by
                      show Steps p.tables e below (s₁.setTop (mkF m 66 #[.val (.int p0)] [(.int (7 : Int32)), (.int p0)])) _
                      refine XS.icmpYes X0.here hx rfl (pc0 := 66) (pc' := 73) rfl (hb hby d1_66) rfl (feq (show ¬ (p0 = (7 : Int32)) from hc66)).2 (by decide) (by decide) ?_
                      show Steps p.tables e below (s₁.setTop (mkF m 73 #[.val (.int p0)] [])) _
                      refine XS.iloadN X0.here hx rfl (hb hby d1_73) rfl ?_
                      show Steps p.tables e below (s₁.setTop (mkF m 74 #[.val (.int p0)] [(.int p0)])) _
                      refine XS.bipush X0.here hx rfl (hb hby d1_74) ?_
                      exact kt)
                  by_cases hc76 : p0 = (8 : Int32)
                  · obtain ⟨T18, X18, e18, st18⟩ := getS2 X0 hx hZ hown (host := "") (Or.inl (hw _ (List.mem_of_getElem? (i := 39) rfl))) Via.refl e0 S8 (g := (mkF m 79 #[.val (.int p0)] [])) rfl (hb hby d1_79)
                    obtain ⟨fs, hr, hrun, hended, hW, hsame⟩ := X18.leave (v := some (.ref b8)) (fun h => by rw [Bd.returns] at h; cases h)
                    refine ⟨_, _, pre17 _ ?_, hrun, hended, _, _, rfl, ?_, ⟨_, rfl⟩, hW, hsame.mono (by decide) (by decide)⟩
                    · show Steps p.tables e below (s₁.setTop (mkF m 76 #[.val (.int p0)] [(.int (8 : Int32)), (.int p0)])) _
                      refine XS.icmpNo X0.here hx rfl (hb hby d1_76) rfl (teq (show p0 = (8 : Int32) from hc76)).2 ?_
                      show Steps p.tables e below (s₁.setTop (mkF m 79 #[.val (.int p0)] [])) _
                      refine st18 _ ?_
                      show Steps p.tables e below (T18.setTop (mkF m 82 #[.val (.int p0)] [(.ref b8)])) _
                      jvm_step X18.here [X18.here.top, hx, (hb hby d1_82), X18.method', Bd.returns, Value.isRef, FieldType.isReference]
                      first | (intro acts; rw [hr _ acts rfl rfl rfl]) | rw [hr _ _ rfl rfl rfl]
                      exact Steps.refl _
                    · show Q1 p0 b0 b1 b2 b3 b4 b5 b6 b7 b8 b9 b10 b11 b12 h0 n0 _ T18.heap _
                      rw [e18]
                      exact ⟨(by rw [pickV, if_neg hc1, if_neg hc10, if_neg hc19, if_neg hc28, if_neg hc37, if_neg hc46, if_neg hc56, if_neg hc66, if_pos hc76]), N0, rfl⟩
                  · have pre19 : ∀ t, Steps p.tables e below (s₁.setTop (mkF m 86 #[.val (.int p0)] [(.int (9 : Int32)), (.int p0)])) t → Steps p.tables e below (s₁.setTop (entryFrame m #[(.int p0)] 1)) t := fun t kt => pre17 t (by
                        show Steps p.tables e below (s₁.setTop (mkF m 76 #[.val (.int p0)] [(.int (8 : Int32)), (.int p0)])) _
                        refine XS.icmpYes X0.here hx rfl (pc0 := 76) (pc' := 83) rfl (hb hby d1_76) rfl (feq (show ¬ (p0 = (8 : Int32)) from hc76)).2 (by decide) (by decide) ?_
                        show Steps p.tables e below (s₁.setTop (mkF m 83 #[.val (.int p0)] [])) _
                        refine XS.iloadN X0.here hx rfl (hb hby d1_83) rfl ?_
                        show Steps p.tables e below (s₁.setTop (mkF m 84 #[.val (.int p0)] [(.int p0)])) _
                        refine XS.bipush X0.here hx rfl (hb hby d1_84) ?_
                        exact kt)
                    by_cases hc86 : p0 = (9 : Int32)
                    · obtain ⟨T20, X20, e20, st20⟩ := getS2 X0 hx hZ hown (host := "") (Or.inl (hw _ (List.mem_of_getElem? (i := 32) rfl))) Via.refl e0 S9 (g := (mkF m 89 #[.val (.int p0)] [])) rfl (hb hby d1_89)
                      obtain ⟨fs, hr, hrun, hended, hW, hsame⟩ := X20.leave (v := some (.ref b9)) (fun h => by rw [Bd.returns] at h; cases h)
                      refine ⟨_, _, pre19 _ ?_, hrun, hended, _, _, rfl, ?_, ⟨_, rfl⟩, hW, hsame.mono (by decide) (by decide)⟩
                      · show Steps p.tables e below (s₁.setTop (mkF m 86 #[.val (.int p0)] [(.int (9 : Int32)), (.int p0)])) _
                        refine XS.icmpNo X0.here hx rfl (hb hby d1_86) rfl (teq (show p0 = (9 : Int32) from hc86)).2 ?_
                        show Steps p.tables e below (s₁.setTop (mkF m 89 #[.val (.int p0)] [])) _
                        refine st20 _ ?_
                        show Steps p.tables e below (T20.setTop (mkF m 92 #[.val (.int p0)] [(.ref b9)])) _
                        jvm_step X20.here [X20.here.top, hx, (hb hby d1_92), X20.method', Bd.returns, Value.isRef, FieldType.isReference]
                        first | (intro acts; rw [hr _ acts rfl rfl rfl]) | rw [hr _ _ rfl rfl rfl]
                        exact Steps.refl _
                      · show Q1 p0 b0 b1 b2 b3 b4 b5 b6 b7 b8 b9 b10 b11 b12 h0 n0 _ T20.heap _
                        rw [e20]
                        exact ⟨(by rw [pickV, if_neg hc1, if_neg hc10, if_neg hc19, if_neg hc28, if_neg hc37, if_neg hc46, if_neg hc56, if_neg hc66, if_neg hc76, if_pos hc86]), N0, rfl⟩
                    · have pre21 : ∀ t, Steps p.tables e below (s₁.setTop (mkF m 96 #[.val (.int p0)] [(.int (10 : Int32)), (.int p0)])) t → Steps p.tables e below (s₁.setTop (entryFrame m #[(.int p0)] 1)) t := fun t kt => pre19 t (by
                          show Steps p.tables e below (s₁.setTop (mkF m 86 #[.val (.int p0)] [(.int (9 : Int32)), (.int p0)])) _
                          refine XS.icmpYes X0.here hx rfl (pc0 := 86) (pc' := 93) rfl (hb hby d1_86) rfl (feq (show ¬ (p0 = (9 : Int32)) from hc86)).2 (by decide) (by decide) ?_
                          show Steps p.tables e below (s₁.setTop (mkF m 93 #[.val (.int p0)] [])) _
                          refine XS.iloadN X0.here hx rfl (hb hby d1_93) rfl ?_
                          show Steps p.tables e below (s₁.setTop (mkF m 94 #[.val (.int p0)] [(.int p0)])) _
                          refine XS.bipush X0.here hx rfl (hb hby d1_94) ?_
                          exact kt)
                      by_cases hc96 : p0 = (10 : Int32)
                      · obtain ⟨T22, X22, e22, st22⟩ := getS2 X0 hx hZ hown (host := "") (Or.inl (hw _ (List.mem_of_getElem? (i := 41) rfl))) Via.refl e0 S10 (g := (mkF m 99 #[.val (.int p0)] [])) rfl (hb hby d1_99)
                        obtain ⟨fs, hr, hrun, hended, hW, hsame⟩ := X22.leave (v := some (.ref b10)) (fun h => by rw [Bd.returns] at h; cases h)
                        refine ⟨_, _, pre21 _ ?_, hrun, hended, _, _, rfl, ?_, ⟨_, rfl⟩, hW, hsame.mono (by decide) (by decide)⟩
                        · show Steps p.tables e below (s₁.setTop (mkF m 96 #[.val (.int p0)] [(.int (10 : Int32)), (.int p0)])) _
                          refine XS.icmpNo X0.here hx rfl (hb hby d1_96) rfl (teq (show p0 = (10 : Int32) from hc96)).2 ?_
                          show Steps p.tables e below (s₁.setTop (mkF m 99 #[.val (.int p0)] [])) _
                          refine st22 _ ?_
                          show Steps p.tables e below (T22.setTop (mkF m 102 #[.val (.int p0)] [(.ref b10)])) _
                          jvm_step X22.here [X22.here.top, hx, (hb hby d1_102), X22.method', Bd.returns, Value.isRef, FieldType.isReference]
                          first | (intro acts; rw [hr _ acts rfl rfl rfl]) | rw [hr _ _ rfl rfl rfl]
                          exact Steps.refl _
                        · show Q1 p0 b0 b1 b2 b3 b4 b5 b6 b7 b8 b9 b10 b11 b12 h0 n0 _ T22.heap _
                          rw [e22]
                          exact ⟨(by rw [pickV, if_neg hc1, if_neg hc10, if_neg hc19, if_neg hc28, if_neg hc37, if_neg hc46, if_neg hc56, if_neg hc66, if_neg hc76, if_neg hc86, if_pos hc96]), N0, rfl⟩
                      · have pre23 : ∀ t, Steps p.tables e below (s₁.setTop (mkF m 106 #[.val (.int p0)] [(.int (11 : Int32)), (.int p0)])) t → Steps p.tables e below (s₁.setTop (entryFrame m #[(.int p0)] 1)) t := fun t kt => pre21 t (by
                            show Steps p.tables e below (s₁.setTop (mkF m 96 #[.val (.int p0)] [(.int (10 : Int32)), (.int p0)])) _
                            refine XS.icmpYes X0.here hx rfl (pc0 := 96) (pc' := 103) rfl (hb hby d1_96) rfl (feq (show ¬ (p0 = (10 : Int32)) from hc96)).2 (by decide) (by decide) ?_
                            show Steps p.tables e below (s₁.setTop (mkF m 103 #[.val (.int p0)] [])) _
                            refine XS.iloadN X0.here hx rfl (hb hby d1_103) rfl ?_
                            show Steps p.tables e below (s₁.setTop (mkF m 104 #[.val (.int p0)] [(.int p0)])) _
                            refine XS.bipush X0.here hx rfl (hb hby d1_104) ?_
                            exact kt)
                        by_cases hc106 : p0 = (11 : Int32)
                        · obtain ⟨T24, X24, e24, st24⟩ := getS2 X0 hx hZ hown (host := "") (Or.inl (hw _ (List.mem_of_getElem? (i := 35) rfl))) Via.refl e0 S11 (g := (mkF m 109 #[.val (.int p0)] [])) rfl (hb hby d1_109)
                          obtain ⟨fs, hr, hrun, hended, hW, hsame⟩ := X24.leave (v := some (.ref b11)) (fun h => by rw [Bd.returns] at h; cases h)
                          refine ⟨_, _, pre23 _ ?_, hrun, hended, _, _, rfl, ?_, ⟨_, rfl⟩, hW, hsame.mono (by decide) (by decide)⟩
                          · show Steps p.tables e below (s₁.setTop (mkF m 106 #[.val (.int p0)] [(.int (11 : Int32)), (.int p0)])) _
                            refine XS.icmpNo X0.here hx rfl (hb hby d1_106) rfl (teq (show p0 = (11 : Int32) from hc106)).2 ?_
                            show Steps p.tables e below (s₁.setTop (mkF m 109 #[.val (.int p0)] [])) _
                            refine st24 _ ?_
                            show Steps p.tables e below (T24.setTop (mkF m 112 #[.val (.int p0)] [(.ref b11)])) _
                            jvm_step X24.here [X24.here.top, hx, (hb hby d1_112), X24.method', Bd.returns, Value.isRef, FieldType.isReference]
                            first | (intro acts; rw [hr _ acts rfl rfl rfl]) | rw [hr _ _ rfl rfl rfl]
                            exact Steps.refl _
                          · show Q1 p0 b0 b1 b2 b3 b4 b5 b6 b7 b8 b9 b10 b11 b12 h0 n0 _ T24.heap _
                            rw [e24]
                            exact ⟨(by rw [pickV, if_neg hc1, if_neg hc10, if_neg hc19, if_neg hc28, if_neg hc37, if_neg hc46, if_neg hc56, if_neg hc66, if_neg hc76, if_neg hc86, if_neg hc96, if_pos hc106]), N0, rfl⟩
                        · obtain ⟨T25, X25, e25, st25⟩ := getS2 X0 hx hZ hown (host := "") (Or.inl (hw _ (List.mem_of_getElem? (i := 43) rfl))) Via.refl e0 S12 (g := (mkF m 113 #[.val (.int p0)] [])) rfl (hb hby d1_113)
                          obtain ⟨fs, hr, hrun, hended, hW, hsame⟩ := X25.leave (v := some (.ref b12)) (fun h => by rw [Bd.returns] at h; cases h)
                          refine ⟨_, _, pre23 _ ?_, hrun, hended, _, _, rfl, ?_, ⟨_, rfl⟩, hW, hsame.mono (by decide) (by decide)⟩
                          · show Steps p.tables e below (s₁.setTop (mkF m 106 #[.val (.int p0)] [(.int (11 : Int32)), (.int p0)])) _
                            refine XS.icmpYes X0.here hx rfl (pc0 := 106) (pc' := 113) rfl (hb hby d1_106) rfl (feq (show ¬ (p0 = (11 : Int32)) from hc106)).2 (by decide) (by decide) ?_
                            show Steps p.tables e below (s₁.setTop (mkF m 113 #[.val (.int p0)] [])) _
                            refine st25 _ ?_
                            show Steps p.tables e below (T25.setTop (mkF m 116 #[.val (.int p0)] [(.ref b12)])) _
                            jvm_step X25.here [X25.here.top, hx, (hb hby d1_116), X25.method', Bd.returns, Value.isRef, FieldType.isReference]
                            first | (intro acts; rw [hr _ acts rfl rfl rfl]) | rw [hr _ _ rfl rfl rfl]
                            exact Steps.refl _
                          · show Q1 p0 b0 b1 b2 b3 b4 b5 b6 b7 b8 b9 b10 b11 b12 h0 n0 _ T25.heap _
                            rw [e25]
                            exact ⟨(by rw [pickV, if_neg hc1, if_neg hc10, if_neg hc19, if_neg hc28, if_neg hc37, if_neg hc46, if_neg hc56, if_neg hc66, if_neg hc76, if_neg hc86, if_neg hc96, if_neg hc106]), N0, rfl⟩
theorem d2_0 : decode prog_185_method_6_code 0 = .ok (.aload_n 0, 1) := by decide +kernel
theorem d2_1 : decode prog_185_method_6_code 1 = .ok (.getstatic 40, 3) := by decide +kernel
theorem d2_4 : decode prog_185_method_6_code 4 = .ok (.if_acmp .eq 31, 3) := by decide +kernel
theorem d2_7 : decode prog_185_method_6_code 7 = .ok (.aload_n 0, 1) := by decide +kernel
theorem d2_8 : decode prog_185_method_6_code 8 = .ok (.getstatic 13, 3) := by decide +kernel
theorem d2_11 : decode prog_185_method_6_code 11 = .ok (.if_acmp .eq 24, 3) := by decide +kernel
theorem d2_14 : decode prog_185_method_6_code 14 = .ok (.aload_n 0, 1) := by decide +kernel
theorem d2_15 : decode prog_185_method_6_code 15 = .ok (.getstatic 16, 3) := by decide +kernel
theorem d2_18 : decode prog_185_method_6_code 18 = .ok (.if_acmp .eq 17, 3) := by decide +kernel
theorem d2_21 : decode prog_185_method_6_code 21 = .ok (.aload_n 0, 1) := by decide +kernel
theorem d2_22 : decode prog_185_method_6_code 22 = .ok (.getstatic 19, 3) := by decide +kernel
theorem d2_25 : decode prog_185_method_6_code 25 = .ok (.if_acmp .eq 10, 3) := by decide +kernel
theorem d2_28 : decode prog_185_method_6_code 28 = .ok (.aload_n 0, 1) := by decide +kernel
theorem d2_29 : decode prog_185_method_6_code 29 = .ok (.getstatic 10, 3) := by decide +kernel
theorem d2_32 : decode prog_185_method_6_code 32 = .ok (.if_acmp .ne 7, 3) := by decide +kernel
theorem d2_35 : decode prog_185_method_6_code 35 = .ok (.iconst 1, 1) := by decide +kernel
theorem d2_36 : decode prog_185_method_6_code 36 = .ok (.goto 4, 3) := by decide +kernel
theorem d2_39 : decode prog_185_method_6_code 39 = .ok (.iconst 0, 1) := by decide +kernel
theorem d2_40 : decode prog_185_method_6_code 40 = .ok (.ireturn, 1) := by decide +kernel
theorem pn_1 : plainName "com/example/inked_rows/inkedrows/xpath/Axis" = true := by first | (simp [plainName, overriddenIn]; done) | decide +kernel
theorem ef_2 (m : MethodId) (o0 : Addr) : entryFrame m #[(.ref o0)] 1 = mkF m 0 #[.val (.ref o0)] [] := by first | (simp [entryFrame, mkF, argsToLocals, Value.category]; done) | rfl
def Q2 (o0 b12 b3 b4 b5 b2 : Addr) (h0 : Heap) (n0 : Nat) (v : Option Value) (h : Heap) (L : List Loc) : Prop := v = some (.int (staysV o0 b12 b3 b4 b5 b2)) ∧ Fr n0 L ∧ h = h0
set_option maxRecDepth 65536 in
set_option maxHeartbeats 40000000 in
theorem rm2 (l : Launch) (Z : State) (a0 : Array Value) (hw : ∀ d ∈ tables_1, d.before a0 Z = true) (ws : List Jvm.Cond) (o0 b12 b3 b4 b5 b2 : Addr) (h0 : Heap) (n0 : Nat) (Z0 : n0 ≤ h0.size) (S12 : Sta Z h0 "com/example/inked_rows/inkedrows/xpath/Axis" "SELF" "Lcom/example/inked_rows/inkedrows/xpath/Axis;" (.ref b12)) (S3 : Sta Z h0 "com/example/inked_rows/inkedrows/xpath/Axis" "CHILD" "Lcom/example/inked_rows/inkedrows/xpath/Axis;" (.ref b3)) (S4 : Sta Z h0 "com/example/inked_rows/inkedrows/xpath/Axis" "DESCENDANT" "Lcom/example/inked_rows/inkedrows/xpath/Axis;" (.ref b4)) (S5 : Sta Z h0 "com/example/inked_rows/inkedrows/xpath/Axis" "DESCENDANT_OR_SELF" "Lcom/example/inked_rows/inkedrows/xpath/Axis;" (.ref b5)) (S2 : Sta Z h0 "com/example/inked_rows/inkedrows/xpath/Axis" "ATTRIBUTE" "Lcom/example/inked_rows/inkedrows/xpath/Axis;" (.ref b2)) :
    MetFree l (⟨"com/example/inked_rows/inkedrows/xpath/Axis", "staysInSubtree", "()Z"⟩ : MethodName) (head1 (Jvm.Cond.code (⟨"com/example/inked_rows/inkedrows/xpath/Axis", "staysInSubtree", "()Z"⟩ : MethodName) prog_185_method_6_code 1 (some .boolean) :: ws) ({ frames := 0, cells := 0, slots := 0, locals := 0 } : Room)) (fun a U => a = #[(.ref o0)] ∧ Z.Warmed39 U.vm ∧ U.heap = h0) (fun _ _ _ _ _ => True) (fun _ U o U' => ∃ v L, o = .returned v ∧ Q2 o0 b12 b3 b4 b5 b2 h0 n0 v U'.heap L ∧ FrameEnd U o U' L ({ frames := 0, cells := 0, slots := 0, locals := 0 } : Room).cells ({ frames := 0, cells := 0, slots := 0, locals := 0 } : Room).slots) := by
  refine MetFree.of_bodySF (plainFor_of_name pn_1) hisR ?_
  intro p e s m args below meth c s₁ Bd hml0 hP hK
  obtain ⟨rfl, hZ, hh⟩ := hP
  have hx := Bd.exec
  have hby := Bd.bytes
  have hml : c.maxLocals = 1 := hml0
  have hown : s.vm.findClass "com/example/inked_rows/inkedrows/xpath/Axis" = some m.cls := findClass_of_methodNamed Bd.named
  have hnm := (name_of_methodNamed Bd.named Bd.method).1
  have X0 : Stand p l e ({ frames := 0, cells := 0, slots := 0, locals := 0 } : Room) s m #[(.ref o0)] below meth c s₁ [] 0 0 := Stand.of_body Bd
  have e0 : s₁.heap = h0 := by rw [← hh, Bd.state]; rfl
  have N0 := Fr.nil n0
  have pre0 : ∀ t, Steps p.tables e below (s₁.setTop (mkF m 0 #[.val (.ref o0)] [])) t → Steps p.tables e below (s₁.setTop (entryFrame m #[(.ref o0)] 1)) t := fun t k => castTop (ef_2 m o0) k
  obtain ⟨T1, X1, e1, st1⟩ := getS2 X0 hx hZ hown (host := "") (Or.inl (hw _ (List.mem_of_getElem? (i := 13) rfl))) Via.refl e0 S12 (g := (mkF m 1 #[.val (.ref o0)] [(.ref o0)])) rfl (hb hby d2_1)
  have pre2 : ∀ t, Steps p.tables e below (T1.setTop (mkF m 4 #[.val (.ref o0)] [(.ref b12), (.ref o0)])) t → Steps p.tables e below (s₁.setTop (entryFrame m #[(.ref o0)] 1)) t := fun t kt => pre0 t (by
      show Steps p.tables e below (s₁.setTop (mkF m 0 #[.val (.ref o0)] [])) _
      refine XS.aloadN X0.here hx rfl (hb hby d2_0) rfl rfl ?_
      show Steps p.tables e below (s₁.setTop (mkF m 1 #[.val (.ref o0)] [(.ref o0)])) _
      refine st1 _ ?_
      exact kt)
  by_cases hc4 : o0 = b12
  · obtain ⟨fs, hr, hrun, hended, hW, hsame⟩ := X1.leave (v := some (.int (1 : Int32))) (fun h => by rw [Bd.returns] at h; cases h)
    refine ⟨_, _, pre2 _ ?_, hrun, hended, _, _, rfl, ?_, ⟨_, rfl⟩, hW, hsame.mono (by decide) (by decide)⟩
    · show Steps p.tables e below (T1.setTop (mkF m 4 #[.val (.ref o0)] [(.ref b12), (.ref o0)])) _
      refine Jvm.RoadKit.acmp (g := (mkF m 4 #[.val (.ref o0)] [(.ref b12), (.ref o0)])) X1 hx rfl rfl rfl (pc0 := 4) (pc' := 35) (same := true) rfl (hb hby d2_4) rfl (decide_eq_true (congrArg Value.ref hc4)) (by decide) (by decide) ?_
      show Steps p.tables e below (T1.setTop (mkF m 35 #[.val (.ref o0)] [])) _
      refine XS.iconst X1.here hx rfl (hb hby d2_35) ?_
      show Steps p.tables e below (T1.setTop (mkF m 36 #[.val (.ref o0)] [(.int (1 : Int32))])) _
      refine XS.goto X1.here hx rfl (pc0 := 36) (pc' := 40) rfl (hb hby d2_36) (by decide) (by decide) ?_
      show Steps p.tables e below (T1.setTop (mkF m 40 #[.val (.ref o0)] [(.int (1 : Int32))])) _
      exact retN X1 hx (t := .boolean) Bd.returns (by simp) (hb hby d2_40) hr
    · show Q2 o0 b12 b3 b4 b5 b2 h0 n0 _ T1.heap _
      rw [e1]
      exact ⟨(by rw [staysV, if_pos hc4]), N0, rfl⟩
  · obtain ⟨T3, X3, e3, st3⟩ := getS2 X1 hx hZ hown (host := "") (Or.inl (hw _ (List.mem_of_getElem? (i := 15) rfl))) Via.refl e1 S3 (g := (mkF m 8 #[.val (.ref o0)] [(.ref o0)])) rfl (hb hby d2_8)
    have pre4 : ∀ t, Steps p.tables e below (T3.setTop (mkF m 11 #[.val (.ref o0)] [(.ref b3), (.ref o0)])) t → Steps p.tables e below (s₁.setTop (entryFrame m #[(.ref o0)] 1)) t := fun t kt => pre2 t (by
        show Steps p.tables e below (T1.setTop (mkF m 4 #[.val (.ref o0)] [(.ref b12), (.ref o0)])) _
        refine Jvm.RoadKit.acmp (g := (mkF m 4 #[.val (.ref o0)] [(.ref b12), (.ref o0)])) X1 hx rfl rfl rfl (pc0 := 4) (pc' := 7) (same := false) rfl (hb hby d2_4) rfl (decide_eq_false fun q => hc4 (Value.ref.inj q)) (by decide) (by decide) ?_
        show Steps p.tables e below (T1.setTop (mkF m 7 #[.val (.ref o0)] [])) _
        refine XS.aloadN X1.here hx rfl (hb hby d2_7) rfl rfl ?_
        show Steps p.tables e below (T1.setTop (mkF m 8 #[.val (.ref o0)] [(.ref o0)])) _
        refine st3 _ ?_
        exact kt)
    by_cases hc11 : o0 = b3
    · obtain ⟨fs, hr, hrun, hended, hW, hsame⟩ := X3.leave (v := some (.int (1 : Int32))) (fun h => by rw [Bd.returns] at h; cases h)
      refine ⟨_, _, pre4 _ ?_, hrun, hended, _, _, rfl, ?_, ⟨_, rfl⟩, hW, hsame.mono (by decide) (by decide)⟩
      · show Steps p.tables e below (T3.setTop (mkF m 11 #[.val (.ref o0)] [(.ref b3), (.ref o0)])) _
        refine Jvm.RoadKit.acmp (g := (mkF m 11 #[.val (.ref o0)] [(.ref b3), (.ref o0)])) X3 hx rfl rfl rfl (pc0 := 11) (pc' := 35) (same := true) rfl (hb hby d2_11) rfl (decide_eq_true (congrArg Value.ref hc11)) (by decide) (by decide) ?_
        show Steps p.tables e below (T3.setTop (mkF m 35 #[.val (.ref o0)] [])) _
        refine XS.iconst X3.here hx rfl (hb hby d2_35) ?_
        show Steps p.tables e below (T3.setTop (mkF m 36 #[.val (.ref o0)] [(.int (1 : Int32))])) _
        refine XS.goto X3.here hx rfl (pc0 := 36) (pc' := 40) rfl (hb hby d2_36) (by decide) (by decide) ?_
        show Steps p.tables e below (T3.setTop (mkF m 40 #[.val (.ref o0)] [(.int (1 : Int32))])) _
        exact retN X3 hx (t := .boolean) Bd.returns (by simp) (hb hby d2_40) hr
      · show Q2 o0 b12 b3 b4 b5 b2 h0 n0 _ T3.heap _
        rw [e3]
        exact ⟨(by rw [staysV, if_neg hc4, if_pos hc11]), N0, rfl⟩
    · obtain ⟨T5, X5, e5, st5⟩ := getS2 X3 hx hZ hown (host := "") (Or.inl (hw _ (List.mem_of_getElem? (i := 17) rfl))) Via.refl e3 S4 (g := (mkF m 15 #[.val (.ref o0)] [(.ref o0)])) rfl (hb hby d2_15)
      have pre6 : ∀ t, Steps p.tables e below (T5.setTop (mkF m 18 #[.val (.ref o0)] [(.ref b4), (.ref o0)])) t → Steps p.tables e below (s₁.setTop (entryFrame m #[(.ref o0)] 1)) t := fun t kt => pre4 t (by
          show Steps p.tables e below (T3.setTop (mkF m 11 #[.val (.ref o0)] [(.ref b3), (.ref o0)])) _
          refine Jvm.RoadKit.acmp (g := (mkF m 11 #[.val (.ref o0)] [(.ref b3), (.ref o0)])) X3 hx rfl rfl rfl (pc0 := 11) (pc' := 14) (same := false) rfl (hb hby d2_11) rfl (decide_eq_false fun q => hc11 (Value.ref.inj q)) (by decide) (by decide) ?_
          show Steps p.tables e below (T3.setTop (mkF m 14 #[.val (.ref o0)] [])) _
          refine XS.aloadN X3.here hx rfl (hb hby d2_14) rfl rfl ?_
          show Steps p.tables e below (T3.setTop (mkF m 15 #[.val (.ref o0)] [(.ref o0)])) _
          refine st5 _ ?_
          exact kt)
      by_cases hc18 : o0 = b4
      · obtain ⟨fs, hr, hrun, hended, hW, hsame⟩ := X5.leave (v := some (.int (1 : Int32))) (fun h => by rw [Bd.returns] at h; cases h)
        refine ⟨_, _, pre6 _ ?_, hrun, hended, _, _, rfl, ?_, ⟨_, rfl⟩, hW, hsame.mono (by decide) (by decide)⟩
        · show Steps p.tables e below (T5.setTop (mkF m 18 #[.val (.ref o0)] [(.ref b4), (.ref o0)])) _
          refine Jvm.RoadKit.acmp (g := (mkF m 18 #[.val (.ref o0)] [(.ref b4), (.ref o0)])) X5 hx rfl rfl rfl (pc0 := 18) (pc' := 35) (same := true) rfl (hb hby d2_18) rfl (decide_eq_true (congrArg Value.ref hc18)) (by decide) (by decide) ?_
          show Steps p.tables e below (T5.setTop (mkF m 35 #[.val (.ref o0)] [])) _
          refine XS.iconst X5.here hx rfl (hb hby d2_35) ?_
          show Steps p.tables e below (T5.setTop (mkF m 36 #[.val (.ref o0)] [(.int (1 : Int32))])) _
          refine XS.goto X5.here hx rfl (pc0 := 36) (pc' := 40) rfl (hb hby d2_36) (by decide) (by decide) ?_
          show Steps p.tables e below (T5.setTop (mkF m 40 #[.val (.ref o0)] [(.int (1 : Int32))])) _
          exact retN X5 hx (t := .boolean) Bd.returns (by simp) (hb hby d2_40) hr
        · show Q2 o0 b12 b3 b4 b5 b2 h0 n0 _ T5.heap _
          rw [e5]
          exact ⟨(by rw [staysV, if_neg hc4, if_neg hc11, if_pos hc18]), N0, rfl⟩
      · obtain ⟨T7, X7, e7, st7⟩ := getS2 X5 hx hZ hown (host := "") (Or.inl (hw _ (List.mem_of_getElem? (i := 19) rfl))) Via.refl e5 S5 (g := (mkF m 22 #[.val (.ref o0)] [(.ref o0)])) rfl (hb hby d2_22)
        have pre8 : ∀ t, Steps p.tables e below (T7.setTop (mkF m 25 #[.val (.ref o0)] [(.ref b5), (.ref o0)])) t → Steps p.tables e below (s₁.setTop (entryFrame m #[(.ref o0)] 1)) t := fun t kt => pre6 t (by
            show Steps p.tables e below (T5.setTop (mkF m 18 #[.val (.ref o0)] [(.ref b4), (.ref o0)])) _
            refine Jvm.RoadKit.acmp (g := (mkF m 18 #[.val (.ref o0)] [(.ref b4), (.ref o0)])) X5 hx rfl rfl rfl (pc0 := 18) (pc' := 21) (same := false) rfl (hb hby d2_18) rfl (decide_eq_false fun q => hc18 (Value.ref.inj q)) (by decide) (by decide) ?_
            show Steps p.tables e below (T5.setTop (mkF m 21 #[.val (.ref o0)] [])) _
            refine XS.aloadN X5.here hx rfl (hb hby d2_21) rfl rfl ?_
            show Steps p.tables e below (T5.setTop (mkF m 22 #[.val (.ref o0)] [(.ref o0)])) _
            refine st7 _ ?_
            exact kt)
        by_cases hc25 : o0 = b5
        · obtain ⟨fs, hr, hrun, hended, hW, hsame⟩ := X7.leave (v := some (.int (1 : Int32))) (fun h => by rw [Bd.returns] at h; cases h)
          refine ⟨_, _, pre8 _ ?_, hrun, hended, _, _, rfl, ?_, ⟨_, rfl⟩, hW, hsame.mono (by decide) (by decide)⟩
          · show Steps p.tables e below (T7.setTop (mkF m 25 #[.val (.ref o0)] [(.ref b5), (.ref o0)])) _
            refine Jvm.RoadKit.acmp (g := (mkF m 25 #[.val (.ref o0)] [(.ref b5), (.ref o0)])) X7 hx rfl rfl rfl (pc0 := 25) (pc' := 35) (same := true) rfl (hb hby d2_25) rfl (decide_eq_true (congrArg Value.ref hc25)) (by decide) (by decide) ?_
            show Steps p.tables e below (T7.setTop (mkF m 35 #[.val (.ref o0)] [])) _
            refine XS.iconst X7.here hx rfl (hb hby d2_35) ?_
            show Steps p.tables e below (T7.setTop (mkF m 36 #[.val (.ref o0)] [(.int (1 : Int32))])) _
            refine XS.goto X7.here hx rfl (pc0 := 36) (pc' := 40) rfl (hb hby d2_36) (by decide) (by decide) ?_
            show Steps p.tables e below (T7.setTop (mkF m 40 #[.val (.ref o0)] [(.int (1 : Int32))])) _
            exact retN X7 hx (t := .boolean) Bd.returns (by simp) (hb hby d2_40) hr
          · show Q2 o0 b12 b3 b4 b5 b2 h0 n0 _ T7.heap _
            rw [e7]
            exact ⟨(by rw [staysV, if_neg hc4, if_neg hc11, if_neg hc18, if_pos hc25]), N0, rfl⟩
        · obtain ⟨T9, X9, e9, st9⟩ := getS2 X7 hx hZ hown (host := "") (Or.inl (hw _ (List.mem_of_getElem? (i := 21) rfl))) Via.refl e7 S2 (g := (mkF m 29 #[.val (.ref o0)] [(.ref o0)])) rfl (hb hby d2_29)
          have pre10 : ∀ t, Steps p.tables e below (T9.setTop (mkF m 32 #[.val (.ref o0)] [(.ref b2), (.ref o0)])) t → Steps p.tables e below (s₁.setTop (entryFrame m #[(.ref o0)] 1)) t := fun t kt => pre8 t (by
              show Steps p.tables e below (T7.setTop (mkF m 25 #[.val (.ref o0)] [(.ref b5), (.ref o0)])) _
              refine Jvm.RoadKit.acmp (g := (mkF m 25 #[.val (.ref o0)] [(.ref b5), (.ref o0)])) X7 hx rfl rfl rfl (pc0 := 25) (pc' := 28) (same := false) rfl (hb hby d2_25) rfl (decide_eq_false fun q => hc25 (Value.ref.inj q)) (by decide) (by decide) ?_
              show Steps p.tables e below (T7.setTop (mkF m 28 #[.val (.ref o0)] [])) _
              refine XS.aloadN X7.here hx rfl (hb hby d2_28) rfl rfl ?_
              show Steps p.tables e below (T7.setTop (mkF m 29 #[.val (.ref o0)] [(.ref o0)])) _
              refine st9 _ ?_
              exact kt)
          by_cases hc32 : o0 = b2
          · obtain ⟨fs, hr, hrun, hended, hW, hsame⟩ := X9.leave (v := some (.int (1 : Int32))) (fun h => by rw [Bd.returns] at h; cases h)
            refine ⟨_, _, pre10 _ ?_, hrun, hended, _, _, rfl, ?_, ⟨_, rfl⟩, hW, hsame.mono (by decide) (by decide)⟩
            · show Steps p.tables e below (T9.setTop (mkF m 32 #[.val (.ref o0)] [(.ref b2), (.ref o0)])) _
              refine Jvm.RoadKit.acmp (g := (mkF m 32 #[.val (.ref o0)] [(.ref b2), (.ref o0)])) X9 hx rfl rfl rfl (pc0 := 32) (pc' := 35) (same := true) rfl (hb hby d2_32) rfl (decide_eq_true (congrArg Value.ref hc32)) (by decide) (by decide) ?_
              show Steps p.tables e below (T9.setTop (mkF m 35 #[.val (.ref o0)] [])) _
              refine XS.iconst X9.here hx rfl (hb hby d2_35) ?_
              show Steps p.tables e below (T9.setTop (mkF m 36 #[.val (.ref o0)] [(.int (1 : Int32))])) _
              refine XS.goto X9.here hx rfl (pc0 := 36) (pc' := 40) rfl (hb hby d2_36) (by decide) (by decide) ?_
              show Steps p.tables e below (T9.setTop (mkF m 40 #[.val (.ref o0)] [(.int (1 : Int32))])) _
              exact retN X9 hx (t := .boolean) Bd.returns (by simp) (hb hby d2_40) hr
            · show Q2 o0 b12 b3 b4 b5 b2 h0 n0 _ T9.heap _
              rw [e9]
              exact ⟨(by rw [staysV, if_neg hc4, if_neg hc11, if_neg hc18, if_neg hc25, if_pos hc32]), N0, rfl⟩
          · obtain ⟨fs, hr, hrun, hended, hW, hsame⟩ := X9.leave (v := some (.int (0 : Int32))) (fun h => by rw [Bd.returns] at h; cases h)
            refine ⟨_, _, pre10 _ ?_, hrun, hended, _, _, rfl, ?_, ⟨_, rfl⟩, hW, hsame.mono (by decide) (by decide)⟩
            · show Steps p.tables e below (T9.setTop (mkF m 32 #[.val (.ref o0)] [(.ref b2), (.ref o0)])) _
              refine Jvm.RoadKit.acmp (g := (mkF m 32 #[.val (.ref o0)] [(.ref b2), (.ref o0)])) X9 hx rfl rfl rfl (pc0 := 32) (pc' := 39) (same := false) rfl (hb hby d2_32) rfl (decide_eq_false fun q => hc32 (Value.ref.inj q)) (by decide) (by decide) ?_
              show Steps p.tables e below (T9.setTop (mkF m 39 #[.val (.ref o0)] [])) _
              refine XS.iconst X9.here hx rfl (hb hby d2_39) ?_
              show Steps p.tables e below (T9.setTop (mkF m 40 #[.val (.ref o0)] [(.int (0 : Int32))])) _
              exact retN X9 hx (t := .boolean) Bd.returns (by simp) (hb hby d2_40) hr
            · show Q2 o0 b12 b3 b4 b5 b2 h0 n0 _ T9.heap _
              rw [e9]
              exact ⟨(by rw [staysV, if_neg hc4, if_neg hc11, if_neg hc18, if_neg hc25, if_neg hc32]), N0, rfl⟩
theorem d3_0 : decode method_3_code 0 = .ok (.iload_n 0, 1) := by decide +kernel
theorem d3_1 : decode method_3_code 1 = .ok (.iconst 2, 1) := by decide +kernel
theorem d3_2 : decode method_3_code 2 = .ok (.if_icmp .ne 5, 3) := by decide +kernel
theorem d3_5 : decode method_3_code 5 = .ok (.iconst 1, 1) := by decide +kernel
theorem d3_6 : decode method_3_code 6 = .ok (.ireturn, 1) := by decide +kernel
theorem d3_7 : decode method_3_code 7 = .ok (.iload_n 0, 1) := by decide +kernel
theorem d3_8 : decode method_3_code 8 = .ok (.iconst 3, 1) := by decide +kernel
theorem d3_9 : decode method_3_code 9 = .ok (.if_icmp .ne 5, 3) := by decide +kernel
theorem d3_12 : decode method_3_code 12 = .ok (.iconst 1, 1) := by decide +kernel
theorem d3_13 : decode method_3_code 13 = .ok (.ireturn, 1) := by decide +kernel
theorem d3_14 : decode method_3_code 14 = .ok (.iload_n 0, 1) := by decide +kernel
theorem d3_15 : decode method_3_code 15 = .ok (.iconst 4, 1) := by decide +kernel
theorem d3_16 : decode method_3_code 16 = .ok (.if_icmp .ne 5, 3) := by decide +kernel
theorem d3_19 : decode method_3_code 19 = .ok (.iconst 1, 1) := by decide +kernel
theorem d3_20 : decode method_3_code 20 = .ok (.ireturn, 1) := by decide +kernel
theorem d3_21 : decode method_3_code 21 = .ok (.iload_n 0, 1) := by decide +kernel
theorem d3_22 : decode method_3_code 22 = .ok (.iconst 5, 1) := by decide +kernel
theorem d3_23 : decode method_3_code 23 = .ok (.if_icmp .ne 5, 3) := by decide +kernel
theorem d3_26 : decode method_3_code 26 = .ok (.iconst 1, 1) := by decide +kernel
theorem d3_27 : decode method_3_code 27 = .ok (.ireturn, 1) := by decide +kernel
theorem d3_28 : decode method_3_code 28 = .ok (.iload_n 0, 1) := by decide +kernel
theorem d3_29 : decode method_3_code 29 = .ok (.bipush 12, 2) := by decide +kernel
theorem d3_31 : decode method_3_code 31 = .ok (.if_icmp .ne 5, 3) := by decide +kernel
theorem d3_34 : decode method_3_code 34 = .ok (.iconst 1, 1) := by decide +kernel
theorem d3_35 : decode method_3_code 35 = .ok (.ireturn, 1) := by decide +kernel
theorem d3_36 : decode method_3_code 36 = .ok (.iconst 0, 1) := by decide +kernel
theorem d3_37 : decode method_3_code 37 = .ok (.ireturn, 1) := by decide +kernel
theorem ef_3 (m : MethodId) (p0 : Int32) : entryFrame m #[(.int p0)] 1 = mkF m 0 #[.val (.int p0)] [] := by first | (simp [entryFrame, mkF, argsToLocals, Value.category]; done) | rfl
def Q3 (p0 : Int32) (h0 : Heap) (n0 : Nat) (v : Option Value) (h : Heap) (L : List Loc) : Prop := v = some (.int (exV p0)) ∧ Fr n0 L ∧ h = h0
set_option maxRecDepth 65536 in
set_option maxHeartbeats 40000000 in
theorem rm3 (l : Launch) (Z : State) (a0 : Array Value) (hw : ∀ d ∈ tables_1, d.before a0 Z = true) (ws : List Jvm.Cond) (p0 : Int32) (h0 : Heap) (n0 : Nat) (Z0 : n0 ≤ h0.size)  :
    MetFree l (⟨"com/example/inked_rows/inkedrows/xpath/AxisStaysInSubtreePinLaw", "expected", "(I)Z"⟩ : MethodName) (head1 (Jvm.Cond.code (⟨"com/example/inked_rows/inkedrows/xpath/AxisStaysInSubtreePinLaw", "expected", "(I)Z"⟩ : MethodName) method_3_code 1 (some .boolean) :: ws) ({ frames := 0, cells := 0, slots := 0, locals := 0 } : Room)) (fun a U => a = #[(.int p0)] ∧ Z.Warmed39 U.vm ∧ U.heap = h0) (fun _ _ _ _ _ => True) (fun _ U o U' => ∃ v L, o = .returned v ∧ Q3 p0 h0 n0 v U'.heap L ∧ FrameEnd U o U' L ({ frames := 0, cells := 0, slots := 0, locals := 0 } : Room).cells ({ frames := 0, cells := 0, slots := 0, locals := 0 } : Room).slots) := by
  refine MetFree.of_bodySF (plainFor_of_name pn_0) hisR ?_
  intro p e s m args below meth c s₁ Bd hml0 hP hK
  obtain ⟨rfl, hZ, hh⟩ := hP
  have hx := Bd.exec
  have hby := Bd.bytes
  have hml : c.maxLocals = 1 := hml0
  have hown : s.vm.findClass "com/example/inked_rows/inkedrows/xpath/AxisStaysInSubtreePinLaw" = some m.cls := findClass_of_methodNamed Bd.named
  have hnm := (name_of_methodNamed Bd.named Bd.method).1
  have X0 : Stand p l e ({ frames := 0, cells := 0, slots := 0, locals := 0 } : Room) s m #[(.int p0)] below meth c s₁ [] 0 0 := Stand.of_body Bd
  have e0 : s₁.heap = h0 := by rw [← hh, Bd.state]; rfl
  have N0 := Fr.nil n0
  have pre0 : ∀ t, Steps p.tables e below (s₁.setTop (mkF m 0 #[.val (.int p0)] [])) t → Steps p.tables e below (s₁.setTop (entryFrame m #[(.int p0)] 1)) t := fun t k => castTop (ef_3 m p0) k
  have pre1 : ∀ t, Steps p.tables e below (s₁.setTop (mkF m 2 #[.val (.int p0)] [(.int (2 : Int32)), (.int p0)])) t → Steps p.tables e below (s₁.setTop (entryFrame m #[(.int p0)] 1)) t := fun t kt => pre0 t (by
      show Steps p.tables e below (s₁.setTop (mkF m 0 #[.val (.int p0)] [])) _
      refine XS.iloadN X0.here hx rfl (hb hby d3_0) rfl ?_
      show Steps p.tables e below (s₁.setTop (mkF m 1 #[.val (.int p0)] [(.int p0)])) _
      refine XS.iconst X0.here hx rfl (hb hby d3_1) ?_
      exact kt)
  by_cases hc2 : p0 = (2 : Int32)
  · obtain ⟨fs, hr, hrun, hended, hW, hsame⟩ := X0.leave (v := some (.int (1 : Int32))) (fun h => by rw [Bd.returns] at h; cases h)
    refine ⟨_, _, pre1 _ ?_, hrun, hended, _, _, rfl, ?_, ⟨_, rfl⟩, hW, hsame.mono (by decide) (by decide)⟩
    · show Steps p.tables e below (s₁.setTop (mkF m 2 #[.val (.int p0)] [(.int (2 : Int32)), (.int p0)])) _
      refine XS.icmpNo X0.here hx rfl (hb hby d3_2) rfl (teq (show p0 = (2 : Int32) from hc2)).2 ?_
      show Steps p.tables e below (s₁.setTop (mkF m 5 #[.val (.int p0)] [])) _
      refine XS.iconst X0.here hx rfl (hb hby d3_5) ?_
      show Steps p.tables e below (s₁.setTop (mkF m 6 #[.val (.int p0)] [(.int (1 : Int32))])) _
      exact retN X0 hx (t := .boolean) Bd.returns (by simp) (hb hby d3_6) hr
    · show Q3 p0 h0 n0 _ s₁.heap _
      rw [e0]
      exact ⟨(by rw [exV, if_pos hc2]), N0, rfl⟩
  · have pre2 : ∀ t, Steps p.tables e below (s₁.setTop (mkF m 9 #[.val (.int p0)] [(.int (3 : Int32)), (.int p0)])) t → Steps p.tables e below (s₁.setTop (entryFrame m #[(.int p0)] 1)) t := fun t kt => pre1 t (by
        show Steps p.tables e below (s₁.setTop (mkF m 2 #[.val (.int p0)] [(.int (2 : Int32)), (.int p0)])) _
        refine XS.icmpYes X0.here hx rfl (pc0 := 2) (pc' := 7) rfl (hb hby d3_2) rfl (feq (show ¬ (p0 = (2 : Int32)) from hc2)).2 (by decide) (by decide) ?_
        show Steps p.tables e below (s₁.setTop (mkF m 7 #[.val (.int p0)] [])) _
        refine XS.iloadN X0.here hx rfl (hb hby d3_7) rfl ?_
        show Steps p.tables e below (s₁.setTop (mkF m 8 #[.val (.int p0)] [(.int p0)])) _
        refine XS.iconst X0.here hx rfl (hb hby d3_8) ?_
        exact kt)
    by_cases hc9 : p0 = (3 : Int32)
    · obtain ⟨fs, hr, hrun, hended, hW, hsame⟩ := X0.leave (v := some (.int (1 : Int32))) (fun h => by rw [Bd.returns] at h; cases h)
      refine ⟨_, _, pre2 _ ?_, hrun, hended, _, _, rfl, ?_, ⟨_, rfl⟩, hW, hsame.mono (by decide) (by decide)⟩
      · show Steps p.tables e below (s₁.setTop (mkF m 9 #[.val (.int p0)] [(.int (3 : Int32)), (.int p0)])) _
        refine XS.icmpNo X0.here hx rfl (hb hby d3_9) rfl (teq (show p0 = (3 : Int32) from hc9)).2 ?_
        show Steps p.tables e below (s₁.setTop (mkF m 12 #[.val (.int p0)] [])) _
        refine XS.iconst X0.here hx rfl (hb hby d3_12) ?_
        show Steps p.tables e below (s₁.setTop (mkF m 13 #[.val (.int p0)] [(.int (1 : Int32))])) _
        exact retN X0 hx (t := .boolean) Bd.returns (by simp) (hb hby d3_13) hr
      · show Q3 p0 h0 n0 _ s₁.heap _
        rw [e0]
        exact ⟨(by rw [exV, if_neg hc2, if_pos hc9]), N0, rfl⟩
    · have pre3 : ∀ t, Steps p.tables e below (s₁.setTop (mkF m 16 #[.val (.int p0)] [(.int (4 : Int32)), (.int p0)])) t → Steps p.tables e below (s₁.setTop (entryFrame m #[(.int p0)] 1)) t := fun t kt => pre2 t (by
          show Steps p.tables e below (s₁.setTop (mkF m 9 #[.val (.int p0)] [(.int (3 : Int32)), (.int p0)])) _
          refine XS.icmpYes X0.here hx rfl (pc0 := 9) (pc' := 14) rfl (hb hby d3_9) rfl (feq (show ¬ (p0 = (3 : Int32)) from hc9)).2 (by decide) (by decide) ?_
          show Steps p.tables e below (s₁.setTop (mkF m 14 #[.val (.int p0)] [])) _
          refine XS.iloadN X0.here hx rfl (hb hby d3_14) rfl ?_
          show Steps p.tables e below (s₁.setTop (mkF m 15 #[.val (.int p0)] [(.int p0)])) _
          refine XS.iconst X0.here hx rfl (hb hby d3_15) ?_
          exact kt)
      by_cases hc16 : p0 = (4 : Int32)
      · obtain ⟨fs, hr, hrun, hended, hW, hsame⟩ := X0.leave (v := some (.int (1 : Int32))) (fun h => by rw [Bd.returns] at h; cases h)
        refine ⟨_, _, pre3 _ ?_, hrun, hended, _, _, rfl, ?_, ⟨_, rfl⟩, hW, hsame.mono (by decide) (by decide)⟩
        · show Steps p.tables e below (s₁.setTop (mkF m 16 #[.val (.int p0)] [(.int (4 : Int32)), (.int p0)])) _
          refine XS.icmpNo X0.here hx rfl (hb hby d3_16) rfl (teq (show p0 = (4 : Int32) from hc16)).2 ?_
          show Steps p.tables e below (s₁.setTop (mkF m 19 #[.val (.int p0)] [])) _
          refine XS.iconst X0.here hx rfl (hb hby d3_19) ?_
          show Steps p.tables e below (s₁.setTop (mkF m 20 #[.val (.int p0)] [(.int (1 : Int32))])) _
          exact retN X0 hx (t := .boolean) Bd.returns (by simp) (hb hby d3_20) hr
        · show Q3 p0 h0 n0 _ s₁.heap _
          rw [e0]
          exact ⟨(by rw [exV, if_neg hc2, if_neg hc9, if_pos hc16]), N0, rfl⟩
      · have pre4 : ∀ t, Steps p.tables e below (s₁.setTop (mkF m 23 #[.val (.int p0)] [(.int (5 : Int32)), (.int p0)])) t → Steps p.tables e below (s₁.setTop (entryFrame m #[(.int p0)] 1)) t := fun t kt => pre3 t (by
            show Steps p.tables e below (s₁.setTop (mkF m 16 #[.val (.int p0)] [(.int (4 : Int32)), (.int p0)])) _
            refine XS.icmpYes X0.here hx rfl (pc0 := 16) (pc' := 21) rfl (hb hby d3_16) rfl (feq (show ¬ (p0 = (4 : Int32)) from hc16)).2 (by decide) (by decide) ?_
            show Steps p.tables e below (s₁.setTop (mkF m 21 #[.val (.int p0)] [])) _
            refine XS.iloadN X0.here hx rfl (hb hby d3_21) rfl ?_
            show Steps p.tables e below (s₁.setTop (mkF m 22 #[.val (.int p0)] [(.int p0)])) _
            refine XS.iconst X0.here hx rfl (hb hby d3_22) ?_
            exact kt)
        by_cases hc23 : p0 = (5 : Int32)
        · obtain ⟨fs, hr, hrun, hended, hW, hsame⟩ := X0.leave (v := some (.int (1 : Int32))) (fun h => by rw [Bd.returns] at h; cases h)
          refine ⟨_, _, pre4 _ ?_, hrun, hended, _, _, rfl, ?_, ⟨_, rfl⟩, hW, hsame.mono (by decide) (by decide)⟩
          · show Steps p.tables e below (s₁.setTop (mkF m 23 #[.val (.int p0)] [(.int (5 : Int32)), (.int p0)])) _
            refine XS.icmpNo X0.here hx rfl (hb hby d3_23) rfl (teq (show p0 = (5 : Int32) from hc23)).2 ?_
            show Steps p.tables e below (s₁.setTop (mkF m 26 #[.val (.int p0)] [])) _
            refine XS.iconst X0.here hx rfl (hb hby d3_26) ?_
            show Steps p.tables e below (s₁.setTop (mkF m 27 #[.val (.int p0)] [(.int (1 : Int32))])) _
            exact retN X0 hx (t := .boolean) Bd.returns (by simp) (hb hby d3_27) hr
          · show Q3 p0 h0 n0 _ s₁.heap _
            rw [e0]
            exact ⟨(by rw [exV, if_neg hc2, if_neg hc9, if_neg hc16, if_pos hc23]), N0, rfl⟩
        · have pre5 : ∀ t, Steps p.tables e below (s₁.setTop (mkF m 31 #[.val (.int p0)] [(.int (12 : Int32)), (.int p0)])) t → Steps p.tables e below (s₁.setTop (entryFrame m #[(.int p0)] 1)) t := fun t kt => pre4 t (by
              show Steps p.tables e below (s₁.setTop (mkF m 23 #[.val (.int p0)] [(.int (5 : Int32)), (.int p0)])) _
              refine XS.icmpYes X0.here hx rfl (pc0 := 23) (pc' := 28) rfl (hb hby d3_23) rfl (feq (show ¬ (p0 = (5 : Int32)) from hc23)).2 (by decide) (by decide) ?_
              show Steps p.tables e below (s₁.setTop (mkF m 28 #[.val (.int p0)] [])) _
              refine XS.iloadN X0.here hx rfl (hb hby d3_28) rfl ?_
              show Steps p.tables e below (s₁.setTop (mkF m 29 #[.val (.int p0)] [(.int p0)])) _
              refine XS.bipush X0.here hx rfl (hb hby d3_29) ?_
              exact kt)
          by_cases hc31 : p0 = (12 : Int32)
          · obtain ⟨fs, hr, hrun, hended, hW, hsame⟩ := X0.leave (v := some (.int (1 : Int32))) (fun h => by rw [Bd.returns] at h; cases h)
            refine ⟨_, _, pre5 _ ?_, hrun, hended, _, _, rfl, ?_, ⟨_, rfl⟩, hW, hsame.mono (by decide) (by decide)⟩
            · show Steps p.tables e below (s₁.setTop (mkF m 31 #[.val (.int p0)] [(.int (12 : Int32)), (.int p0)])) _
              refine XS.icmpNo X0.here hx rfl (hb hby d3_31) rfl (teq (show p0 = (12 : Int32) from hc31)).2 ?_
              show Steps p.tables e below (s₁.setTop (mkF m 34 #[.val (.int p0)] [])) _
              refine XS.iconst X0.here hx rfl (hb hby d3_34) ?_
              show Steps p.tables e below (s₁.setTop (mkF m 35 #[.val (.int p0)] [(.int (1 : Int32))])) _
              exact retN X0 hx (t := .boolean) Bd.returns (by simp) (hb hby d3_35) hr
            · show Q3 p0 h0 n0 _ s₁.heap _
              rw [e0]
              exact ⟨(by rw [exV, if_neg hc2, if_neg hc9, if_neg hc16, if_neg hc23, if_pos hc31]), N0, rfl⟩
          · obtain ⟨fs, hr, hrun, hended, hW, hsame⟩ := X0.leave (v := some (.int (0 : Int32))) (fun h => by rw [Bd.returns] at h; cases h)
            refine ⟨_, _, pre5 _ ?_, hrun, hended, _, _, rfl, ?_, ⟨_, rfl⟩, hW, hsame.mono (by decide) (by decide)⟩
            · show Steps p.tables e below (s₁.setTop (mkF m 31 #[.val (.int p0)] [(.int (12 : Int32)), (.int p0)])) _
              refine XS.icmpYes X0.here hx rfl (pc0 := 31) (pc' := 36) rfl (hb hby d3_31) rfl (feq (show ¬ (p0 = (12 : Int32)) from hc31)).2 (by decide) (by decide) ?_
              show Steps p.tables e below (s₁.setTop (mkF m 36 #[.val (.int p0)] [])) _
              refine XS.iconst X0.here hx rfl (hb hby d3_36) ?_
              show Steps p.tables e below (s₁.setTop (mkF m 37 #[.val (.int p0)] [(.int (0 : Int32))])) _
              exact retN X0 hx (t := .boolean) Bd.returns (by simp) (hb hby d3_37) hr
            · show Q3 p0 h0 n0 _ s₁.heap _
              rw [e0]
              exact ⟨(by rw [exV, if_neg hc2, if_neg hc9, if_neg hc16, if_neg hc23, if_neg hc31]), N0, rfl⟩
theorem pd_0 : parseMethodDescriptor "(I)Lcom/example/inked_rows/inkedrows/xpath/Axis;" = some ⟨[.int], some (.object "com/example/inked_rows/inkedrows/xpath/Axis")⟩ := by decide +kernel
theorem pd_1 : parseMethodDescriptor "()Z" = some ⟨[], some .boolean⟩ := by decide +kernel
theorem pd_2 : parseMethodDescriptor "(I)Z" = some ⟨[.int], some .boolean⟩ := by decide +kernel
theorem ef_0 (m : MethodId) (p0 : Int32) : entryFrame m #[(.int p0)] maxLocals = mkF m 0 #[.val (.int p0), .unset, .unset] [] := by first | (simp [entryFrame, mkF, argsToLocals, Value.category, maxLocals]; done) | rfl
def Q0 (h0 : Heap) (n0 : Nat) (v : Option Value) (h : Heap) (L : List Loc) : Prop := v = some (.int 1) ∧ Fr n0 L
set_option maxRecDepth 65536 in
set_option maxHeartbeats 40000000 in
theorem rm0 (l : Launch) (Z : State) (a0 : Array Value) (hw : ∀ d ∈ tables_1, d.before a0 Z = true) (ws : List Jvm.Cond) (p0 : Int32) (b0 b1 b2 b3 b4 b5 b6 b7 b8 b9 b10 b11 b12 : Addr) (h0 : Heap) (n0 : Nat) (Z0 : n0 ≤ h0.size) (S0 : Sta Z h0 "com/example/inked_rows/inkedrows/xpath/Axis" "ANCESTOR" "Lcom/example/inked_rows/inkedrows/xpath/Axis;" (.ref b0)) (E0 : Exa Z h0 b0 "com/example/inked_rows/inkedrows/xpath/Axis") (O0 : Fld Z h0 b0 "java/lang/Enum" "ordinal" "I" (.int (0 : Int32))) (S1 : Sta Z h0 "com/example/inked_rows/inkedrows/xpath/Axis" "ANCESTOR_OR_SELF" "Lcom/example/inked_rows/inkedrows/xpath/Axis;" (.ref b1)) (E1 : Exa Z h0 b1 "com/example/inked_rows/inkedrows/xpath/Axis") (O1 : Fld Z h0 b1 "java/lang/Enum" "ordinal" "I" (.int (1 : Int32))) (S2 : Sta Z h0 "com/example/inked_rows/inkedrows/xpath/Axis" "ATTRIBUTE" "Lcom/example/inked_rows/inkedrows/xpath/Axis;" (.ref b2)) (E2 : Exa Z h0 b2 "com/example/inked_rows/inkedrows/xpath/Axis") (O2 : Fld Z h0 b2 "java/lang/Enum" "ordinal" "I" (.int (2 : Int32))) (S3 : Sta Z h0 "com/example/inked_rows/inkedrows/xpath/Axis" "CHILD" "Lcom/example/inked_rows/inkedrows/xpath/Axis;" (.ref b3)) (E3 : Exa Z h0 b3 "com/example/inked_rows/inkedrows/xpath/Axis") (O3 : Fld Z h0 b3 "java/lang/Enum" "ordinal" "I" (.int (3 : Int32))) (S4 : Sta Z h0 "com/example/inked_rows/inkedrows/xpath/Axis" "DESCENDANT" "Lcom/example/inked_rows/inkedrows/xpath/Axis;" (.ref b4)) (E4 : Exa Z h0 b4 "com/example/inked_rows/inkedrows/xpath/Axis") (O4 : Fld Z h0 b4 "java/lang/Enum" "ordinal" "I" (.int (4 : Int32))) (S5 : Sta Z h0 "com/example/inked_rows/inkedrows/xpath/Axis" "DESCENDANT_OR_SELF" "Lcom/example/inked_rows/inkedrows/xpath/Axis;" (.ref b5)) (E5 : Exa Z h0 b5 "com/example/inked_rows/inkedrows/xpath/Axis") (O5 : Fld Z h0 b5 "java/lang/Enum" "ordinal" "I" (.int (5 : Int32))) (S6 : Sta Z h0 "com/example/inked_rows/inkedrows/xpath/Axis" "FOLLOWING" "Lcom/example/inked_rows/inkedrows/xpath/Axis;" (.ref b6)) (E6 : Exa Z h0 b6 "com/example/inked_rows/inkedrows/xpath/Axis") (O6 : Fld Z h0 b6 "java/lang/Enum" "ordinal" "I" (.int (6 : Int32))) (S7 : Sta Z h0 "com/example/inked_rows/inkedrows/xpath/Axis" "FOLLOWING_SIBLING" "Lcom/example/inked_rows/inkedrows/xpath/Axis;" (.ref b7)) (E7 : Exa Z h0 b7 "com/example/inked_rows/inkedrows/xpath/Axis") (O7 : Fld Z h0 b7 "java/lang/Enum" "ordinal" "I" (.int (7 : Int32))) (S8 : Sta Z h0 "com/example/inked_rows/inkedrows/xpath/Axis" "NAMESPACE" "Lcom/example/inked_rows/inkedrows/xpath/Axis;" (.ref b8)) (E8 : Exa Z h0 b8 "com/example/inked_rows/inkedrows/xpath/Axis") (O8 : Fld Z h0 b8 "java/lang/Enum" "ordinal" "I" (.int (8 : Int32))) (S9 : Sta Z h0 "com/example/inked_rows/inkedrows/xpath/Axis" "PARENT" "Lcom/example/inked_rows/inkedrows/xpath/Axis;" (.ref b9)) (E9 : Exa Z h0 b9 "com/example/inked_rows/inkedrows/xpath/Axis") (O9 : Fld Z h0 b9 "java/lang/Enum" "ordinal" "I" (.int (9 : Int32))) (S10 : Sta Z h0 "com/example/inked_rows/inkedrows/xpath/Axis" "PRECEDING" "Lcom/example/inked_rows/inkedrows/xpath/Axis;" (.ref b10)) (E10 : Exa Z h0 b10 "com/example/inked_rows/inkedrows/xpath/Axis") (O10 : Fld Z h0 b10 "java/lang/Enum" "ordinal" "I" (.int (10 : Int32))) (S11 : Sta Z h0 "com/example/inked_rows/inkedrows/xpath/Axis" "PRECEDING_SIBLING" "Lcom/example/inked_rows/inkedrows/xpath/Axis;" (.ref b11)) (E11 : Exa Z h0 b11 "com/example/inked_rows/inkedrows/xpath/Axis") (O11 : Fld Z h0 b11 "java/lang/Enum" "ordinal" "I" (.int (11 : Int32))) (S12 : Sta Z h0 "com/example/inked_rows/inkedrows/xpath/Axis" "SELF" "Lcom/example/inked_rows/inkedrows/xpath/Axis;" (.ref b12)) (E12 : Exa Z h0 b12 "com/example/inked_rows/inkedrows/xpath/Axis") (O12 : Fld Z h0 b12 "java/lang/Enum" "ordinal" "I" (.int (12 : Int32))) :
    MetFree l x (head1 (Jvm.Cond.code x code maxLocals ret :: ws) room_1) (fun a U => a = #[(.int p0)] ∧ Z.Warmed39 U.vm ∧ U.heap = h0) (fun _ _ _ _ _ => True) (fun _ U o U' => ∃ v L, o = .returned v ∧ Q0 h0 n0 v U'.heap L ∧ FrameEnd U o U' L 0 0) := by
  refine MetFree.of_bodySF (plainFor_of_name pn_0) hisR ?_
  intro p e s m args below meth c s₁ Bd hml0 hP hK
  obtain ⟨rfl, hZ, hh⟩ := hP
  have hx := Bd.exec
  have hby := Bd.bytes
  have hml : c.maxLocals = 3 := hml0
  have hown : s.vm.findClass "com/example/inked_rows/inkedrows/xpath/AxisStaysInSubtreePinLaw" = some m.cls := findClass_of_methodNamed Bd.named
  have hnm := (name_of_methodNamed Bd.named Bd.method).1
  have X0 : Stand p l e room_1 s m #[(.int p0)] below meth c s₁ [] 0 0 := Stand.of_body Bd
  have e0 : s₁.heap = h0 := by rw [← hh, Bd.state]; rfl
  have N0 := Fr.nil n0
  have pre0 : ∀ t, Steps p.tables e below (s₁.setTop (mkF m 0 #[.val (.int p0), .unset, .unset] [])) t → Steps p.tables e below (s₁.setTop (entryFrame m #[(.int p0)] maxLocals)) t := fun t k => castTop (ef_0 m p0) k
  have pre1 : ∀ t, Steps p.tables e below (s₁.setTop (mkF m 8 #[.val (.int p0), .val (.int ((p0 &&& (2147483647 : Int32)) - ((p0 &&& (2147483647 : Int32)) / (13 : Int32)) * (13 : Int32))), .unset] [])) t → Steps p.tables e below (s₁.setTop (entryFrame m #[(.int p0)] maxLocals)) t := fun t kt => pre0 t (by
      show Steps p.tables e below (s₁.setTop (mkF m 0 #[.val (.int p0), .unset, .unset] [])) _
      refine XS.iloadN X0.here hx rfl (hb hby at_0) rfl ?_
      show Steps p.tables e below (s₁.setTop (mkF m 1 #[.val (.int p0), .unset, .unset] [(.int p0)])) _
      refine X0.ldcI hx hown (mvT hZ (hw _ (List.mem_of_getElem? (i := 0) rfl))) (g := (mkF m 1 #[.val (.int p0), .unset, .unset] [(.int p0)])) rfl (hb hby at_1) ?_
      show Steps p.tables e below (s₁.setTop (mkF m 3 #[.val (.int p0), .unset, .unset] [(.int (2147483647 : Int32)), (.int p0)])) _
      refine XS.iand X0.here hx rfl (hb hby at_3) rfl ?_
      show Steps p.tables e below (s₁.setTop (mkF m 4 #[.val (.int p0), .unset, .unset] [(.int (p0 &&& (2147483647 : Int32)))])) _
      refine XS.bipush X0.here hx rfl (hb hby at_4) ?_
      show Steps p.tables e below (s₁.setTop (mkF m 6 #[.val (.int p0), .unset, .unset] [(.int (13 : Int32)), (.int (p0 &&& (2147483647 : Int32)))])) _
      refine XS.irem X0.here hx rfl (hb hby at_6) rfl (by decide) ?_
      show Steps p.tables e below (s₁.setTop (mkF m 7 #[.val (.int p0), .unset, .unset] [(.int ((p0 &&& (2147483647 : Int32)) - ((p0 &&& (2147483647 : Int32)) / (13 : Int32)) * (13 : Int32)))])) _
      refine XS.istoreN X0.here hx rfl (hb hby at_7) rfl (l' := #[.val (.int p0), .val (.int ((p0 &&& (2147483647 : Int32)) - ((p0 &&& (2147483647 : Int32)) / (13 : Int32)) * (13 : Int32))), .unset]) rfl ?_
      exact kt)
  obtain ⟨k, hk⟩ : ∃ z : Int32, z = ((p0 &&& (2147483647 : Int32)) - ((p0 &&& (2147483647 : Int32)) / (13 : Int32)) * (13 : Int32)) := ⟨_, rfl⟩
  rw [← hk] at pre1
  obtain ⟨_, _, ⟨T2, L2, k2, n2⟩, -, X2, ⟨Lc2, hQ2, l2, y2, z2⟩, st2⟩ := Jvm.LawKit.callS X0 hx (y := (⟨"com/example/inked_rows/inkedrows/xpath/AxisStaysInSubtreePinLaw", "pick", "(I)Lcom/example/inked_rows/inkedrows/xpath/Axis;"⟩ : MethodName)) hown (mvT hZ (hw _ (List.mem_of_getElem? (i := 1) rfl))) (mvT hZ (hw _ (List.mem_of_getElem? (i := 2) rfl))) (mvT hZ (hw _ (List.mem_of_getElem? (i := 3) rfl))) (mvT hZ (hw _ (List.mem_of_getElem? (i := 4) rfl))) (by decide) (backOf (W := 0) (rm1 l Z a0 hw [] k b0 b1 b2 b3 b4 b5 b6 b7 b8 b9 b10 b11 b12 h0 n0 Z0 S0 S1 S2 S3 S4 S5 S6 S7 S8 S9 S10 S11 S12) hZ (hw _ (List.mem_of_getElem? (i := 4) rfl)) (hw _ (List.mem_of_getElem? (i := 3) rfl)) (by decide) (by decide)) (g := (mkF m 9 #[.val (.int p0), .val (.int k), .unset] [(.int k)])) rfl (by rw [hml]; rfl) (argsL := [(.int k)]) (rest := []) (lenOf pd_0 rfl) rfl (by show 2 * 0 + _ ≤ _; exact Nat.le_of_eq rfl) (hb hby at_9) (fun _ _ => ⟨rfl, e0, (by decide : 0 + 0 ≤ _), (by decide : 0 + 0 ≤ _)⟩)
  dsimp only [Pt.U, Pt.locs, Pt.cells, Pt.slots] at X2 l2 y2 z2 st2 hQ2
  subst l2 y2 z2
  obtain ⟨rfl, N2q, e2⟩ := hQ2
  have N2 := Fr.app N0 N2q
  have pre3 : ∀ t, Steps p.tables e below (T2.setTop (mkF m 13 #[.val (.int p0), .val (.int k), .val (.ref (pickV k b0 b1 b2 b3 b4 b5 b6 b7 b8 b9 b10 b11 b12))] [])) t → Steps p.tables e below (s₁.setTop (entryFrame m #[(.int p0)] maxLocals)) t := fun t kt => pre1 t (by
      show Steps p.tables e below (s₁.setTop (mkF m 8 #[.val (.int p0), .val (.int k), .unset] [])) _
      refine XS.iloadN X0.here hx rfl (hb hby at_8) rfl ?_
      show Steps p.tables e below (s₁.setTop (mkF m 9 #[.val (.int p0), .val (.int k), .unset] [(.int k)])) _
      refine st2 _ ?_
      show Steps p.tables e below (T2.setTop (mkF m 12 #[.val (.int p0), .val (.int k), .unset] [(.ref (pickV k b0 b1 b2 b3 b4 b5 b6 b7 b8 b9 b10 b11 b12))])) _
      refine XS.astoreN X2.here hx rfl (hb hby at_12) rfl rfl (l' := #[.val (.int p0), .val (.int k), .val (.ref (pickV k b0 b1 b2 b3 b4 b5 b6 b7 b8 b9 b10 b11 b12))]) rfl ?_
      exact kt)
  by_cases hk0 : k = (0 : Int32)
  · have ek : pickV k b0 b1 b2 b3 b4 b5 b6 b7 b8 b9 b10 b11 b12 = b0 := by rw [pickV, if_pos hk0]
    rw [ek] at pre3
    obtain ⟨cq4, kq4, q4a, q4b, q4c⟩ := isOf hZ e2 E0
    obtain ⟨_, _, ⟨T4, L4, k4, n4⟩, -, X4, ⟨Lc4, hQ4, l4, y4, z4⟩, st4⟩ := X2.virtualBack hx (y := (⟨"com/example/inked_rows/inkedrows/xpath/Axis", "staysInSubtree", "()Z"⟩ : MethodName)) (z := (⟨"com/example/inked_rows/inkedrows/xpath/Axis", "staysInSubtree", "()Z"⟩ : MethodName)) hown (mvT hZ (hw _ (List.mem_of_getElem? (i := 8) rfl))) (mvT hZ (hw _ (List.mem_of_getElem? (i := 9) rfl))) (notFace_of_selects (args := #[]) (mvT hZ (hw _ (List.mem_of_getElem? (i := 11) rfl)))) (mvT hZ (hw _ (List.mem_of_getElem? (i := 11) rfl))) (mvT hZ (hw _ (List.mem_of_getElem? (i := 10) rfl))) (by decide) (backOf (W := 0) (rm2 l Z a0 hw [] b0 b12 b3 b4 b5 b2 h0 n0 Z0 S12 S3 S4 S5 S2) hZ (hw _ (List.mem_of_getElem? (i := 12) rfl)) (hw _ (List.mem_of_getElem? (i := 6) rfl)) (by decide) (by decide)) q4a q4c (g := (mkF m 14 #[.val (.int p0), .val (.int k), .val (.ref b0)] [(.ref b0)])) rfl (by rw [hml]; rfl) (Steps.refl _) (argsL := []) (rest := []) (lenOf pd_1 rfl) rfl (by show 2 * 0 + _ ≤ _; exact Nat.le_of_eq rfl) (hb hby at_14) (fun _ _ => ⟨rfl, e2, (by decide : 0 + 0 ≤ _), (by decide : 0 + 0 ≤ _)⟩)
    dsimp only [Pt.U, Pt.locs, Pt.cells, Pt.slots] at X4 l4 y4 z4 st4 hQ4
    subst l4 y4 z4
    obtain ⟨rfl, N4q, e4⟩ := hQ4
    have N4 := Fr.app N2 N4q
    obtain ⟨_, _, ⟨T5, L5, k5, n5⟩, -, X5, ⟨Lc5, hQ5, l5, y5, z5⟩, st5⟩ := Jvm.LawKit.callS X4 hx (y := (⟨"com/example/inked_rows/inkedrows/xpath/AxisStaysInSubtreePinLaw", "expected", "(I)Z"⟩ : MethodName)) hown (mvT hZ (hw _ (List.mem_of_getElem? (i := 23) rfl))) (mvT hZ (hw _ (List.mem_of_getElem? (i := 24) rfl))) (mvT hZ (hw _ (List.mem_of_getElem? (i := 3) rfl))) (mvT hZ (hw _ (List.mem_of_getElem? (i := 25) rfl))) (by decide) (backOf (W := 1) (rm3 l Z a0 hw [] k h0 n0 Z0 ) hZ (hw _ (List.mem_of_getElem? (i := 25) rfl)) (hw _ (List.mem_of_getElem? (i := 3) rfl)) (by decide) (by decide)) (g := (mkF m 18 #[.val (.int p0), .val (.int k), .val (.ref b0)] [(.int k), (.int (staysV b0 b12 b3 b4 b5 b2))])) rfl (by rw [hml]; rfl) (argsL := [(.int k)]) (rest := [(.int (staysV b0 b12 b3 b4 b5 b2))]) (lenOf pd_2 rfl) rfl (by show 2 * 0 + _ ≤ _; exact Nat.le_of_eq rfl) (hb hby at_18) (fun _ _ => ⟨rfl, e4, (by decide : 0 + 0 ≤ _), (by decide : 0 + 0 ≤ _)⟩)
    dsimp only [Pt.U, Pt.locs, Pt.cells, Pt.slots] at X5 l5 y5 z5 st5 hQ5
    subst l5 y5 z5
    obtain ⟨rfl, N5q, e5⟩ := hQ5
    have N5 := Fr.app N4 N5q
    obtain ⟨fs, hr, hrun, hended, hW, hsame⟩ := X5.leave (v := some (.int (1 : Int32))) (fun h => by rw [Bd.returns] at h; cases h)
    refine ⟨_, _, pre3 _ ?_, hrun, hended, _, _, rfl, ?_, ⟨_, rfl⟩, hW, hsame.mono (by decide) (by decide)⟩
    · show Steps p.tables e below (T2.setTop (mkF m 13 #[.val (.int p0), .val (.int k), .val (.ref b0)] [])) _
      refine XS.aloadN X2.here hx rfl (hb hby at_13) rfl rfl ?_
      show Steps p.tables e below (T2.setTop (mkF m 14 #[.val (.int p0), .val (.int k), .val (.ref b0)] [(.ref b0)])) _
      refine st4.trans ?_
      show Steps p.tables e below (T4.setTop (mkF m 17 #[.val (.int p0), .val (.int k), .val (.ref b0)] [(.int (staysV b0 b12 b3 b4 b5 b2))])) _
      refine XS.iloadN X4.here hx rfl (hb hby at_17) rfl ?_
      show Steps p.tables e below (T4.setTop (mkF m 18 #[.val (.int p0), .val (.int k), .val (.ref b0)] [(.int k), (.int (staysV b0 b12 b3 b4 b5 b2))])) _
      refine st5 _ ?_
      show Steps p.tables e below (T5.setTop (mkF m 21 #[.val (.int p0), .val (.int k), .val (.ref b0)] [(.int (exV k)), (.int (staysV b0 b12 b3 b4 b5 b2))])) _
      refine XS.icmpNo X5.here hx rfl (hb hby at_21) rfl (teq (show (staysV b0 b12 b3 b4 b5 b2) = (exV k) from (by rw [staysV, if_neg (Fld.ne O0 O12 (by decide)), if_neg (Fld.ne O0 O3 (by decide)), if_neg (Fld.ne O0 O4 (by decide)), if_neg (Fld.ne O0 O5 (by decide)), if_neg (Fld.ne O0 O2 (by decide)), hk0]; decide))).2 ?_
      show Steps p.tables e below (T5.setTop (mkF m 24 #[.val (.int p0), .val (.int k), .val (.ref b0)] [])) _
      refine XS.iconst X5.here hx rfl (hb hby at_24) ?_
      show Steps p.tables e below (T5.setTop (mkF m 25 #[.val (.int p0), .val (.int k), .val (.ref b0)] [(.int (1 : Int32))])) _
      refine XS.goto X5.here hx rfl (pc0 := 25) (pc' := 29) rfl (hb hby at_25) (by decide) (by decide) ?_
      show Steps p.tables e below (T5.setTop (mkF m 29 #[.val (.int p0), .val (.int k), .val (.ref b0)] [(.int (1 : Int32))])) _
      exact retN X5 hx (t := .boolean) Bd.returns (by simp) (hb hby at_29) hr
    · show Q0 h0 n0 _ T5.heap _
      rw [e5]
      exact ⟨rfl, N5⟩
  · by_cases hk1 : k = (1 : Int32)
    · have ek : pickV k b0 b1 b2 b3 b4 b5 b6 b7 b8 b9 b10 b11 b12 = b1 := by rw [pickV, if_neg hk0, if_pos hk1]
      rw [ek] at pre3
      obtain ⟨cq6, kq6, q6a, q6b, q6c⟩ := isOf hZ e2 E1
      obtain ⟨_, _, ⟨T6, L6, k6, n6⟩, -, X6, ⟨Lc6, hQ6, l6, y6, z6⟩, st6⟩ := X2.virtualBack hx (y := (⟨"com/example/inked_rows/inkedrows/xpath/Axis", "staysInSubtree", "()Z"⟩ : MethodName)) (z := (⟨"com/example/inked_rows/inkedrows/xpath/Axis", "staysInSubtree", "()Z"⟩ : MethodName)) hown (mvT hZ (hw _ (List.mem_of_getElem? (i := 8) rfl))) (mvT hZ (hw _ (List.mem_of_getElem? (i := 9) rfl))) (notFace_of_selects (args := #[]) (mvT hZ (hw _ (List.mem_of_getElem? (i := 11) rfl)))) (mvT hZ (hw _ (List.mem_of_getElem? (i := 11) rfl))) (mvT hZ (hw _ (List.mem_of_getElem? (i := 10) rfl))) (by decide) (backOf (W := 0) (rm2 l Z a0 hw [] b1 b12 b3 b4 b5 b2 h0 n0 Z0 S12 S3 S4 S5 S2) hZ (hw _ (List.mem_of_getElem? (i := 12) rfl)) (hw _ (List.mem_of_getElem? (i := 6) rfl)) (by decide) (by decide)) q6a q6c (g := (mkF m 14 #[.val (.int p0), .val (.int k), .val (.ref b1)] [(.ref b1)])) rfl (by rw [hml]; rfl) (Steps.refl _) (argsL := []) (rest := []) (lenOf pd_1 rfl) rfl (by show 2 * 0 + _ ≤ _; exact Nat.le_of_eq rfl) (hb hby at_14) (fun _ _ => ⟨rfl, e2, (by decide : 0 + 0 ≤ _), (by decide : 0 + 0 ≤ _)⟩)
      dsimp only [Pt.U, Pt.locs, Pt.cells, Pt.slots] at X6 l6 y6 z6 st6 hQ6
      subst l6 y6 z6
      obtain ⟨rfl, N6q, e6⟩ := hQ6
      have N6 := Fr.app N2 N6q
      obtain ⟨_, _, ⟨T7, L7, k7, n7⟩, -, X7, ⟨Lc7, hQ7, l7, y7, z7⟩, st7⟩ := Jvm.LawKit.callS X6 hx (y := (⟨"com/example/inked_rows/inkedrows/xpath/AxisStaysInSubtreePinLaw", "expected", "(I)Z"⟩ : MethodName)) hown (mvT hZ (hw _ (List.mem_of_getElem? (i := 23) rfl))) (mvT hZ (hw _ (List.mem_of_getElem? (i := 24) rfl))) (mvT hZ (hw _ (List.mem_of_getElem? (i := 3) rfl))) (mvT hZ (hw _ (List.mem_of_getElem? (i := 25) rfl))) (by decide) (backOf (W := 1) (rm3 l Z a0 hw [] k h0 n0 Z0 ) hZ (hw _ (List.mem_of_getElem? (i := 25) rfl)) (hw _ (List.mem_of_getElem? (i := 3) rfl)) (by decide) (by decide)) (g := (mkF m 18 #[.val (.int p0), .val (.int k), .val (.ref b1)] [(.int k), (.int (staysV b1 b12 b3 b4 b5 b2))])) rfl (by rw [hml]; rfl) (argsL := [(.int k)]) (rest := [(.int (staysV b1 b12 b3 b4 b5 b2))]) (lenOf pd_2 rfl) rfl (by show 2 * 0 + _ ≤ _; exact Nat.le_of_eq rfl) (hb hby at_18) (fun _ _ => ⟨rfl, e6, (by decide : 0 + 0 ≤ _), (by decide : 0 + 0 ≤ _)⟩)
      dsimp only [Pt.U, Pt.locs, Pt.cells, Pt.slots] at X7 l7 y7 z7 st7 hQ7
      subst l7 y7 z7
      obtain ⟨rfl, N7q, e7⟩ := hQ7
      have N7 := Fr.app N6 N7q
      obtain ⟨fs, hr, hrun, hended, hW, hsame⟩ := X7.leave (v := some (.int (1 : Int32))) (fun h => by rw [Bd.returns] at h; cases h)
      refine ⟨_, _, pre3 _ ?_, hrun, hended, _, _, rfl, ?_, ⟨_, rfl⟩, hW, hsame.mono (by decide) (by decide)⟩
      · show Steps p.tables e below (T2.setTop (mkF m 13 #[.val (.int p0), .val (.int k), .val (.ref b1)] [])) _
        refine XS.aloadN X2.here hx rfl (hb hby at_13) rfl rfl ?_
        show Steps p.tables e below (T2.setTop (mkF m 14 #[.val (.int p0), .val (.int k), .val (.ref b1)] [(.ref b1)])) _
        refine st6.trans ?_
        show Steps p.tables e below (T6.setTop (mkF m 17 #[.val (.int p0), .val (.int k), .val (.ref b1)] [(.int (staysV b1 b12 b3 b4 b5 b2))])) _
        refine XS.iloadN X6.here hx rfl (hb hby at_17) rfl ?_
        show Steps p.tables e below (T6.setTop (mkF m 18 #[.val (.int p0), .val (.int k), .val (.ref b1)] [(.int k), (.int (staysV b1 b12 b3 b4 b5 b2))])) _
        refine st7 _ ?_
        show Steps p.tables e below (T7.setTop (mkF m 21 #[.val (.int p0), .val (.int k), .val (.ref b1)] [(.int (exV k)), (.int (staysV b1 b12 b3 b4 b5 b2))])) _
        refine XS.icmpNo X7.here hx rfl (hb hby at_21) rfl (teq (show (staysV b1 b12 b3 b4 b5 b2) = (exV k) from (by rw [staysV, if_neg (Fld.ne O1 O12 (by decide)), if_neg (Fld.ne O1 O3 (by decide)), if_neg (Fld.ne O1 O4 (by decide)), if_neg (Fld.ne O1 O5 (by decide)), if_neg (Fld.ne O1 O2 (by decide)), hk1]; decide))).2 ?_
        show Steps p.tables e below (T7.setTop (mkF m 24 #[.val (.int p0), .val (.int k), .val (.ref b1)] [])) _
        refine XS.iconst X7.here hx rfl (hb hby at_24) ?_
        show Steps p.tables e below (T7.setTop (mkF m 25 #[.val (.int p0), .val (.int k), .val (.ref b1)] [(.int (1 : Int32))])) _
        refine XS.goto X7.here hx rfl (pc0 := 25) (pc' := 29) rfl (hb hby at_25) (by decide) (by decide) ?_
        show Steps p.tables e below (T7.setTop (mkF m 29 #[.val (.int p0), .val (.int k), .val (.ref b1)] [(.int (1 : Int32))])) _
        exact retN X7 hx (t := .boolean) Bd.returns (by simp) (hb hby at_29) hr
      · show Q0 h0 n0 _ T7.heap _
        rw [e7]
        exact ⟨rfl, N7⟩
    · by_cases hk2 : k = (2 : Int32)
      · have ek : pickV k b0 b1 b2 b3 b4 b5 b6 b7 b8 b9 b10 b11 b12 = b2 := by rw [pickV, if_neg hk0, if_neg hk1, if_pos hk2]
        rw [ek] at pre3
        obtain ⟨cq8, kq8, q8a, q8b, q8c⟩ := isOf hZ e2 E2
        obtain ⟨_, _, ⟨T8, L8, k8, n8⟩, -, X8, ⟨Lc8, hQ8, l8, y8, z8⟩, st8⟩ := X2.virtualBack hx (y := (⟨"com/example/inked_rows/inkedrows/xpath/Axis", "staysInSubtree", "()Z"⟩ : MethodName)) (z := (⟨"com/example/inked_rows/inkedrows/xpath/Axis", "staysInSubtree", "()Z"⟩ : MethodName)) hown (mvT hZ (hw _ (List.mem_of_getElem? (i := 8) rfl))) (mvT hZ (hw _ (List.mem_of_getElem? (i := 9) rfl))) (notFace_of_selects (args := #[]) (mvT hZ (hw _ (List.mem_of_getElem? (i := 11) rfl)))) (mvT hZ (hw _ (List.mem_of_getElem? (i := 11) rfl))) (mvT hZ (hw _ (List.mem_of_getElem? (i := 10) rfl))) (by decide) (backOf (W := 0) (rm2 l Z a0 hw [] b2 b12 b3 b4 b5 b2 h0 n0 Z0 S12 S3 S4 S5 S2) hZ (hw _ (List.mem_of_getElem? (i := 12) rfl)) (hw _ (List.mem_of_getElem? (i := 6) rfl)) (by decide) (by decide)) q8a q8c (g := (mkF m 14 #[.val (.int p0), .val (.int k), .val (.ref b2)] [(.ref b2)])) rfl (by rw [hml]; rfl) (Steps.refl _) (argsL := []) (rest := []) (lenOf pd_1 rfl) rfl (by show 2 * 0 + _ ≤ _; exact Nat.le_of_eq rfl) (hb hby at_14) (fun _ _ => ⟨rfl, e2, (by decide : 0 + 0 ≤ _), (by decide : 0 + 0 ≤ _)⟩)
        dsimp only [Pt.U, Pt.locs, Pt.cells, Pt.slots] at X8 l8 y8 z8 st8 hQ8
        subst l8 y8 z8
        obtain ⟨rfl, N8q, e8⟩ := hQ8
        have N8 := Fr.app N2 N8q
        obtain ⟨_, _, ⟨T9, L9, k9, n9⟩, -, X9, ⟨Lc9, hQ9, l9, y9, z9⟩, st9⟩ := Jvm.LawKit.callS X8 hx (y := (⟨"com/example/inked_rows/inkedrows/xpath/AxisStaysInSubtreePinLaw", "expected", "(I)Z"⟩ : MethodName)) hown (mvT hZ (hw _ (List.mem_of_getElem? (i := 23) rfl))) (mvT hZ (hw _ (List.mem_of_getElem? (i := 24) rfl))) (mvT hZ (hw _ (List.mem_of_getElem? (i := 3) rfl))) (mvT hZ (hw _ (List.mem_of_getElem? (i := 25) rfl))) (by decide) (backOf (W := 1) (rm3 l Z a0 hw [] k h0 n0 Z0 ) hZ (hw _ (List.mem_of_getElem? (i := 25) rfl)) (hw _ (List.mem_of_getElem? (i := 3) rfl)) (by decide) (by decide)) (g := (mkF m 18 #[.val (.int p0), .val (.int k), .val (.ref b2)] [(.int k), (.int (staysV b2 b12 b3 b4 b5 b2))])) rfl (by rw [hml]; rfl) (argsL := [(.int k)]) (rest := [(.int (staysV b2 b12 b3 b4 b5 b2))]) (lenOf pd_2 rfl) rfl (by show 2 * 0 + _ ≤ _; exact Nat.le_of_eq rfl) (hb hby at_18) (fun _ _ => ⟨rfl, e8, (by decide : 0 + 0 ≤ _), (by decide : 0 + 0 ≤ _)⟩)
        dsimp only [Pt.U, Pt.locs, Pt.cells, Pt.slots] at X9 l9 y9 z9 st9 hQ9
        subst l9 y9 z9
        obtain ⟨rfl, N9q, e9⟩ := hQ9
        have N9 := Fr.app N8 N9q
        obtain ⟨fs, hr, hrun, hended, hW, hsame⟩ := X9.leave (v := some (.int (1 : Int32))) (fun h => by rw [Bd.returns] at h; cases h)
        refine ⟨_, _, pre3 _ ?_, hrun, hended, _, _, rfl, ?_, ⟨_, rfl⟩, hW, hsame.mono (by decide) (by decide)⟩
        · show Steps p.tables e below (T2.setTop (mkF m 13 #[.val (.int p0), .val (.int k), .val (.ref b2)] [])) _
          refine XS.aloadN X2.here hx rfl (hb hby at_13) rfl rfl ?_
          show Steps p.tables e below (T2.setTop (mkF m 14 #[.val (.int p0), .val (.int k), .val (.ref b2)] [(.ref b2)])) _
          refine st8.trans ?_
          show Steps p.tables e below (T8.setTop (mkF m 17 #[.val (.int p0), .val (.int k), .val (.ref b2)] [(.int (staysV b2 b12 b3 b4 b5 b2))])) _
          refine XS.iloadN X8.here hx rfl (hb hby at_17) rfl ?_
          show Steps p.tables e below (T8.setTop (mkF m 18 #[.val (.int p0), .val (.int k), .val (.ref b2)] [(.int k), (.int (staysV b2 b12 b3 b4 b5 b2))])) _
          refine st9 _ ?_
          show Steps p.tables e below (T9.setTop (mkF m 21 #[.val (.int p0), .val (.int k), .val (.ref b2)] [(.int (exV k)), (.int (staysV b2 b12 b3 b4 b5 b2))])) _
          refine XS.icmpNo X9.here hx rfl (hb hby at_21) rfl (teq (show (staysV b2 b12 b3 b4 b5 b2) = (exV k) from (by rw [staysV, if_neg (Fld.ne O2 O12 (by decide)), if_neg (Fld.ne O2 O3 (by decide)), if_neg (Fld.ne O2 O4 (by decide)), if_neg (Fld.ne O2 O5 (by decide)), if_pos rfl, hk2]; decide))).2 ?_
          show Steps p.tables e below (T9.setTop (mkF m 24 #[.val (.int p0), .val (.int k), .val (.ref b2)] [])) _
          refine XS.iconst X9.here hx rfl (hb hby at_24) ?_
          show Steps p.tables e below (T9.setTop (mkF m 25 #[.val (.int p0), .val (.int k), .val (.ref b2)] [(.int (1 : Int32))])) _
          refine XS.goto X9.here hx rfl (pc0 := 25) (pc' := 29) rfl (hb hby at_25) (by decide) (by decide) ?_
          show Steps p.tables e below (T9.setTop (mkF m 29 #[.val (.int p0), .val (.int k), .val (.ref b2)] [(.int (1 : Int32))])) _
          exact retN X9 hx (t := .boolean) Bd.returns (by simp) (hb hby at_29) hr
        · show Q0 h0 n0 _ T9.heap _
          rw [e9]
          exact ⟨rfl, N9⟩
      · by_cases hk3 : k = (3 : Int32)
        · have ek : pickV k b0 b1 b2 b3 b4 b5 b6 b7 b8 b9 b10 b11 b12 = b3 := by rw [pickV, if_neg hk0, if_neg hk1, if_neg hk2, if_pos hk3]
          rw [ek] at pre3
          obtain ⟨cq10, kq10, q10a, q10b, q10c⟩ := isOf hZ e2 E3
          obtain ⟨_, _, ⟨T10, L10, k10, n10⟩, -, X10, ⟨Lc10, hQ10, l10, y10, z10⟩, st10⟩ := X2.virtualBack hx (y := (⟨"com/example/inked_rows/inkedrows/xpath/Axis", "staysInSubtree", "()Z"⟩ : MethodName)) (z := (⟨"com/example/inked_rows/inkedrows/xpath/Axis", "staysInSubtree", "()Z"⟩ : MethodName)) hown (mvT hZ (hw _ (List.mem_of_getElem? (i := 8) rfl))) (mvT hZ (hw _ (List.mem_of_getElem? (i := 9) rfl))) (notFace_of_selects (args := #[]) (mvT hZ (hw _ (List.mem_of_getElem? (i := 11) rfl)))) (mvT hZ (hw _ (List.mem_of_getElem? (i := 11) rfl))) (mvT hZ (hw _ (List.mem_of_getElem? (i := 10) rfl))) (by decide) (backOf (W := 0) (rm2 l Z a0 hw [] b3 b12 b3 b4 b5 b2 h0 n0 Z0 S12 S3 S4 S5 S2) hZ (hw _ (List.mem_of_getElem? (i := 12) rfl)) (hw _ (List.mem_of_getElem? (i := 6) rfl)) (by decide) (by decide)) q10a q10c (g := (mkF m 14 #[.val (.int p0), .val (.int k), .val (.ref b3)] [(.ref b3)])) rfl (by rw [hml]; rfl) (Steps.refl _) (argsL := []) (rest := []) (lenOf pd_1 rfl) rfl (by show 2 * 0 + _ ≤ _; exact Nat.le_of_eq rfl) (hb hby at_14) (fun _ _ => ⟨rfl, e2, (by decide : 0 + 0 ≤ _), (by decide : 0 + 0 ≤ _)⟩)
          dsimp only [Pt.U, Pt.locs, Pt.cells, Pt.slots] at X10 l10 y10 z10 st10 hQ10
          subst l10 y10 z10
          obtain ⟨rfl, N10q, e10⟩ := hQ10
          have N10 := Fr.app N2 N10q
          obtain ⟨_, _, ⟨T11, L11, k11, n11⟩, -, X11, ⟨Lc11, hQ11, l11, y11, z11⟩, st11⟩ := Jvm.LawKit.callS X10 hx (y := (⟨"com/example/inked_rows/inkedrows/xpath/AxisStaysInSubtreePinLaw", "expected", "(I)Z"⟩ : MethodName)) hown (mvT hZ (hw _ (List.mem_of_getElem? (i := 23) rfl))) (mvT hZ (hw _ (List.mem_of_getElem? (i := 24) rfl))) (mvT hZ (hw _ (List.mem_of_getElem? (i := 3) rfl))) (mvT hZ (hw _ (List.mem_of_getElem? (i := 25) rfl))) (by decide) (backOf (W := 1) (rm3 l Z a0 hw [] k h0 n0 Z0 ) hZ (hw _ (List.mem_of_getElem? (i := 25) rfl)) (hw _ (List.mem_of_getElem? (i := 3) rfl)) (by decide) (by decide)) (g := (mkF m 18 #[.val (.int p0), .val (.int k), .val (.ref b3)] [(.int k), (.int (staysV b3 b12 b3 b4 b5 b2))])) rfl (by rw [hml]; rfl) (argsL := [(.int k)]) (rest := [(.int (staysV b3 b12 b3 b4 b5 b2))]) (lenOf pd_2 rfl) rfl (by show 2 * 0 + _ ≤ _; exact Nat.le_of_eq rfl) (hb hby at_18) (fun _ _ => ⟨rfl, e10, (by decide : 0 + 0 ≤ _), (by decide : 0 + 0 ≤ _)⟩)
          dsimp only [Pt.U, Pt.locs, Pt.cells, Pt.slots] at X11 l11 y11 z11 st11 hQ11
          subst l11 y11 z11
          obtain ⟨rfl, N11q, e11⟩ := hQ11
          have N11 := Fr.app N10 N11q
          obtain ⟨fs, hr, hrun, hended, hW, hsame⟩ := X11.leave (v := some (.int (1 : Int32))) (fun h => by rw [Bd.returns] at h; cases h)
          refine ⟨_, _, pre3 _ ?_, hrun, hended, _, _, rfl, ?_, ⟨_, rfl⟩, hW, hsame.mono (by decide) (by decide)⟩
          · show Steps p.tables e below (T2.setTop (mkF m 13 #[.val (.int p0), .val (.int k), .val (.ref b3)] [])) _
            refine XS.aloadN X2.here hx rfl (hb hby at_13) rfl rfl ?_
            show Steps p.tables e below (T2.setTop (mkF m 14 #[.val (.int p0), .val (.int k), .val (.ref b3)] [(.ref b3)])) _
            refine st10.trans ?_
            show Steps p.tables e below (T10.setTop (mkF m 17 #[.val (.int p0), .val (.int k), .val (.ref b3)] [(.int (staysV b3 b12 b3 b4 b5 b2))])) _
            refine XS.iloadN X10.here hx rfl (hb hby at_17) rfl ?_
            show Steps p.tables e below (T10.setTop (mkF m 18 #[.val (.int p0), .val (.int k), .val (.ref b3)] [(.int k), (.int (staysV b3 b12 b3 b4 b5 b2))])) _
            refine st11 _ ?_
            show Steps p.tables e below (T11.setTop (mkF m 21 #[.val (.int p0), .val (.int k), .val (.ref b3)] [(.int (exV k)), (.int (staysV b3 b12 b3 b4 b5 b2))])) _
            refine XS.icmpNo X11.here hx rfl (hb hby at_21) rfl (teq (show (staysV b3 b12 b3 b4 b5 b2) = (exV k) from (by rw [staysV, if_neg (Fld.ne O3 O12 (by decide)), if_pos rfl, hk3]; decide))).2 ?_
            show Steps p.tables e below (T11.setTop (mkF m 24 #[.val (.int p0), .val (.int k), .val (.ref b3)] [])) _
            refine XS.iconst X11.here hx rfl (hb hby at_24) ?_
            show Steps p.tables e below (T11.setTop (mkF m 25 #[.val (.int p0), .val (.int k), .val (.ref b3)] [(.int (1 : Int32))])) _
            refine XS.goto X11.here hx rfl (pc0 := 25) (pc' := 29) rfl (hb hby at_25) (by decide) (by decide) ?_
            show Steps p.tables e below (T11.setTop (mkF m 29 #[.val (.int p0), .val (.int k), .val (.ref b3)] [(.int (1 : Int32))])) _
            exact retN X11 hx (t := .boolean) Bd.returns (by simp) (hb hby at_29) hr
          · show Q0 h0 n0 _ T11.heap _
            rw [e11]
            exact ⟨rfl, N11⟩
        · by_cases hk4 : k = (4 : Int32)
          · have ek : pickV k b0 b1 b2 b3 b4 b5 b6 b7 b8 b9 b10 b11 b12 = b4 := by rw [pickV, if_neg hk0, if_neg hk1, if_neg hk2, if_neg hk3, if_pos hk4]
            rw [ek] at pre3
            obtain ⟨cq12, kq12, q12a, q12b, q12c⟩ := isOf hZ e2 E4
            obtain ⟨_, _, ⟨T12, L12, k12, n12⟩, -, X12, ⟨Lc12, hQ12, l12, y12, z12⟩, st12⟩ := X2.virtualBack hx (y := (⟨"com/example/inked_rows/inkedrows/xpath/Axis", "staysInSubtree", "()Z"⟩ : MethodName)) (z := (⟨"com/example/inked_rows/inkedrows/xpath/Axis", "staysInSubtree", "()Z"⟩ : MethodName)) hown (mvT hZ (hw _ (List.mem_of_getElem? (i := 8) rfl))) (mvT hZ (hw _ (List.mem_of_getElem? (i := 9) rfl))) (notFace_of_selects (args := #[]) (mvT hZ (hw _ (List.mem_of_getElem? (i := 11) rfl)))) (mvT hZ (hw _ (List.mem_of_getElem? (i := 11) rfl))) (mvT hZ (hw _ (List.mem_of_getElem? (i := 10) rfl))) (by decide) (backOf (W := 0) (rm2 l Z a0 hw [] b4 b12 b3 b4 b5 b2 h0 n0 Z0 S12 S3 S4 S5 S2) hZ (hw _ (List.mem_of_getElem? (i := 12) rfl)) (hw _ (List.mem_of_getElem? (i := 6) rfl)) (by decide) (by decide)) q12a q12c (g := (mkF m 14 #[.val (.int p0), .val (.int k), .val (.ref b4)] [(.ref b4)])) rfl (by rw [hml]; rfl) (Steps.refl _) (argsL := []) (rest := []) (lenOf pd_1 rfl) rfl (by show 2 * 0 + _ ≤ _; exact Nat.le_of_eq rfl) (hb hby at_14) (fun _ _ => ⟨rfl, e2, (by decide : 0 + 0 ≤ _), (by decide : 0 + 0 ≤ _)⟩)
            dsimp only [Pt.U, Pt.locs, Pt.cells, Pt.slots] at X12 l12 y12 z12 st12 hQ12
            subst l12 y12 z12
            obtain ⟨rfl, N12q, e12⟩ := hQ12
            have N12 := Fr.app N2 N12q
            obtain ⟨_, _, ⟨T13, L13, k13, n13⟩, -, X13, ⟨Lc13, hQ13, l13, y13, z13⟩, st13⟩ := Jvm.LawKit.callS X12 hx (y := (⟨"com/example/inked_rows/inkedrows/xpath/AxisStaysInSubtreePinLaw", "expected", "(I)Z"⟩ : MethodName)) hown (mvT hZ (hw _ (List.mem_of_getElem? (i := 23) rfl))) (mvT hZ (hw _ (List.mem_of_getElem? (i := 24) rfl))) (mvT hZ (hw _ (List.mem_of_getElem? (i := 3) rfl))) (mvT hZ (hw _ (List.mem_of_getElem? (i := 25) rfl))) (by decide) (backOf (W := 1) (rm3 l Z a0 hw [] k h0 n0 Z0 ) hZ (hw _ (List.mem_of_getElem? (i := 25) rfl)) (hw _ (List.mem_of_getElem? (i := 3) rfl)) (by decide) (by decide)) (g := (mkF m 18 #[.val (.int p0), .val (.int k), .val (.ref b4)] [(.int k), (.int (staysV b4 b12 b3 b4 b5 b2))])) rfl (by rw [hml]; rfl) (argsL := [(.int k)]) (rest := [(.int (staysV b4 b12 b3 b4 b5 b2))]) (lenOf pd_2 rfl) rfl (by show 2 * 0 + _ ≤ _; exact Nat.le_of_eq rfl) (hb hby at_18) (fun _ _ => ⟨rfl, e12, (by decide : 0 + 0 ≤ _), (by decide : 0 + 0 ≤ _)⟩)
            dsimp only [Pt.U, Pt.locs, Pt.cells, Pt.slots] at X13 l13 y13 z13 st13 hQ13
            subst l13 y13 z13
            obtain ⟨rfl, N13q, e13⟩ := hQ13
            have N13 := Fr.app N12 N13q
            obtain ⟨fs, hr, hrun, hended, hW, hsame⟩ := X13.leave (v := some (.int (1 : Int32))) (fun h => by rw [Bd.returns] at h; cases h)
            refine ⟨_, _, pre3 _ ?_, hrun, hended, _, _, rfl, ?_, ⟨_, rfl⟩, hW, hsame.mono (by decide) (by decide)⟩
            · show Steps p.tables e below (T2.setTop (mkF m 13 #[.val (.int p0), .val (.int k), .val (.ref b4)] [])) _
              refine XS.aloadN X2.here hx rfl (hb hby at_13) rfl rfl ?_
              show Steps p.tables e below (T2.setTop (mkF m 14 #[.val (.int p0), .val (.int k), .val (.ref b4)] [(.ref b4)])) _
              refine st12.trans ?_
              show Steps p.tables e below (T12.setTop (mkF m 17 #[.val (.int p0), .val (.int k), .val (.ref b4)] [(.int (staysV b4 b12 b3 b4 b5 b2))])) _
              refine XS.iloadN X12.here hx rfl (hb hby at_17) rfl ?_
              show Steps p.tables e below (T12.setTop (mkF m 18 #[.val (.int p0), .val (.int k), .val (.ref b4)] [(.int k), (.int (staysV b4 b12 b3 b4 b5 b2))])) _
              refine st13 _ ?_
              show Steps p.tables e below (T13.setTop (mkF m 21 #[.val (.int p0), .val (.int k), .val (.ref b4)] [(.int (exV k)), (.int (staysV b4 b12 b3 b4 b5 b2))])) _
              refine XS.icmpNo X13.here hx rfl (hb hby at_21) rfl (teq (show (staysV b4 b12 b3 b4 b5 b2) = (exV k) from (by rw [staysV, if_neg (Fld.ne O4 O12 (by decide)), if_neg (Fld.ne O4 O3 (by decide)), if_pos rfl, hk4]; decide))).2 ?_
              show Steps p.tables e below (T13.setTop (mkF m 24 #[.val (.int p0), .val (.int k), .val (.ref b4)] [])) _
              refine XS.iconst X13.here hx rfl (hb hby at_24) ?_
              show Steps p.tables e below (T13.setTop (mkF m 25 #[.val (.int p0), .val (.int k), .val (.ref b4)] [(.int (1 : Int32))])) _
              refine XS.goto X13.here hx rfl (pc0 := 25) (pc' := 29) rfl (hb hby at_25) (by decide) (by decide) ?_
              show Steps p.tables e below (T13.setTop (mkF m 29 #[.val (.int p0), .val (.int k), .val (.ref b4)] [(.int (1 : Int32))])) _
              exact retN X13 hx (t := .boolean) Bd.returns (by simp) (hb hby at_29) hr
            · show Q0 h0 n0 _ T13.heap _
              rw [e13]
              exact ⟨rfl, N13⟩
          · by_cases hk5 : k = (5 : Int32)
            · have ek : pickV k b0 b1 b2 b3 b4 b5 b6 b7 b8 b9 b10 b11 b12 = b5 := by rw [pickV, if_neg hk0, if_neg hk1, if_neg hk2, if_neg hk3, if_neg hk4, if_pos hk5]
              rw [ek] at pre3
              obtain ⟨cq14, kq14, q14a, q14b, q14c⟩ := isOf hZ e2 E5
              obtain ⟨_, _, ⟨T14, L14, k14, n14⟩, -, X14, ⟨Lc14, hQ14, l14, y14, z14⟩, st14⟩ := X2.virtualBack hx (y := (⟨"com/example/inked_rows/inkedrows/xpath/Axis", "staysInSubtree", "()Z"⟩ : MethodName)) (z := (⟨"com/example/inked_rows/inkedrows/xpath/Axis", "staysInSubtree", "()Z"⟩ : MethodName)) hown (mvT hZ (hw _ (List.mem_of_getElem? (i := 8) rfl))) (mvT hZ (hw _ (List.mem_of_getElem? (i := 9) rfl))) (notFace_of_selects (args := #[]) (mvT hZ (hw _ (List.mem_of_getElem? (i := 11) rfl)))) (mvT hZ (hw _ (List.mem_of_getElem? (i := 11) rfl))) (mvT hZ (hw _ (List.mem_of_getElem? (i := 10) rfl))) (by decide) (backOf (W := 0) (rm2 l Z a0 hw [] b5 b12 b3 b4 b5 b2 h0 n0 Z0 S12 S3 S4 S5 S2) hZ (hw _ (List.mem_of_getElem? (i := 12) rfl)) (hw _ (List.mem_of_getElem? (i := 6) rfl)) (by decide) (by decide)) q14a q14c (g := (mkF m 14 #[.val (.int p0), .val (.int k), .val (.ref b5)] [(.ref b5)])) rfl (by rw [hml]; rfl) (Steps.refl _) (argsL := []) (rest := []) (lenOf pd_1 rfl) rfl (by show 2 * 0 + _ ≤ _; exact Nat.le_of_eq rfl) (hb hby at_14) (fun _ _ => ⟨rfl, e2, (by decide : 0 + 0 ≤ _), (by decide : 0 + 0 ≤ _)⟩)
              dsimp only [Pt.U, Pt.locs, Pt.cells, Pt.slots] at X14 l14 y14 z14 st14 hQ14
              subst l14 y14 z14
              obtain ⟨rfl, N14q, e14⟩ := hQ14
              have N14 := Fr.app N2 N14q
              obtain ⟨_, _, ⟨T15, L15, k15, n15⟩, -, X15, ⟨Lc15, hQ15, l15, y15, z15⟩, st15⟩ := Jvm.LawKit.callS X14 hx (y := (⟨"com/example/inked_rows/inkedrows/xpath/AxisStaysInSubtreePinLaw", "expected", "(I)Z"⟩ : MethodName)) hown (mvT hZ (hw _ (List.mem_of_getElem? (i := 23) rfl))) (mvT hZ (hw _ (List.mem_of_getElem? (i := 24) rfl))) (mvT hZ (hw _ (List.mem_of_getElem? (i := 3) rfl))) (mvT hZ (hw _ (List.mem_of_getElem? (i := 25) rfl))) (by decide) (backOf (W := 1) (rm3 l Z a0 hw [] k h0 n0 Z0 ) hZ (hw _ (List.mem_of_getElem? (i := 25) rfl)) (hw _ (List.mem_of_getElem? (i := 3) rfl)) (by decide) (by decide)) (g := (mkF m 18 #[.val (.int p0), .val (.int k), .val (.ref b5)] [(.int k), (.int (staysV b5 b12 b3 b4 b5 b2))])) rfl (by rw [hml]; rfl) (argsL := [(.int k)]) (rest := [(.int (staysV b5 b12 b3 b4 b5 b2))]) (lenOf pd_2 rfl) rfl (by show 2 * 0 + _ ≤ _; exact Nat.le_of_eq rfl) (hb hby at_18) (fun _ _ => ⟨rfl, e14, (by decide : 0 + 0 ≤ _), (by decide : 0 + 0 ≤ _)⟩)
              dsimp only [Pt.U, Pt.locs, Pt.cells, Pt.slots] at X15 l15 y15 z15 st15 hQ15
              subst l15 y15 z15
              obtain ⟨rfl, N15q, e15⟩ := hQ15
              have N15 := Fr.app N14 N15q
              obtain ⟨fs, hr, hrun, hended, hW, hsame⟩ := X15.leave (v := some (.int (1 : Int32))) (fun h => by rw [Bd.returns] at h; cases h)
              refine ⟨_, _, pre3 _ ?_, hrun, hended, _, _, rfl, ?_, ⟨_, rfl⟩, hW, hsame.mono (by decide) (by decide)⟩
              · show Steps p.tables e below (T2.setTop (mkF m 13 #[.val (.int p0), .val (.int k), .val (.ref b5)] [])) _
                refine XS.aloadN X2.here hx rfl (hb hby at_13) rfl rfl ?_
                show Steps p.tables e below (T2.setTop (mkF m 14 #[.val (.int p0), .val (.int k), .val (.ref b5)] [(.ref b5)])) _
                refine st14.trans ?_
                show Steps p.tables e below (T14.setTop (mkF m 17 #[.val (.int p0), .val (.int k), .val (.ref b5)] [(.int (staysV b5 b12 b3 b4 b5 b2))])) _
                refine XS.iloadN X14.here hx rfl (hb hby at_17) rfl ?_
                show Steps p.tables e below (T14.setTop (mkF m 18 #[.val (.int p0), .val (.int k), .val (.ref b5)] [(.int k), (.int (staysV b5 b12 b3 b4 b5 b2))])) _
                refine st15 _ ?_
                show Steps p.tables e below (T15.setTop (mkF m 21 #[.val (.int p0), .val (.int k), .val (.ref b5)] [(.int (exV k)), (.int (staysV b5 b12 b3 b4 b5 b2))])) _
                refine XS.icmpNo X15.here hx rfl (hb hby at_21) rfl (teq (show (staysV b5 b12 b3 b4 b5 b2) = (exV k) from (by rw [staysV, if_neg (Fld.ne O5 O12 (by decide)), if_neg (Fld.ne O5 O3 (by decide)), if_neg (Fld.ne O5 O4 (by decide)), if_pos rfl, hk5]; decide))).2 ?_
                show Steps p.tables e below (T15.setTop (mkF m 24 #[.val (.int p0), .val (.int k), .val (.ref b5)] [])) _
                refine XS.iconst X15.here hx rfl (hb hby at_24) ?_
                show Steps p.tables e below (T15.setTop (mkF m 25 #[.val (.int p0), .val (.int k), .val (.ref b5)] [(.int (1 : Int32))])) _
                refine XS.goto X15.here hx rfl (pc0 := 25) (pc' := 29) rfl (hb hby at_25) (by decide) (by decide) ?_
                show Steps p.tables e below (T15.setTop (mkF m 29 #[.val (.int p0), .val (.int k), .val (.ref b5)] [(.int (1 : Int32))])) _
                exact retN X15 hx (t := .boolean) Bd.returns (by simp) (hb hby at_29) hr
              · show Q0 h0 n0 _ T15.heap _
                rw [e15]
                exact ⟨rfl, N15⟩
            · by_cases hk6 : k = (6 : Int32)
              · have ek : pickV k b0 b1 b2 b3 b4 b5 b6 b7 b8 b9 b10 b11 b12 = b6 := by rw [pickV, if_neg hk0, if_neg hk1, if_neg hk2, if_neg hk3, if_neg hk4, if_neg hk5, if_pos hk6]
                rw [ek] at pre3
                obtain ⟨cq16, kq16, q16a, q16b, q16c⟩ := isOf hZ e2 E6
                obtain ⟨_, _, ⟨T16, L16, k16, n16⟩, -, X16, ⟨Lc16, hQ16, l16, y16, z16⟩, st16⟩ := X2.virtualBack hx (y := (⟨"com/example/inked_rows/inkedrows/xpath/Axis", "staysInSubtree", "()Z"⟩ : MethodName)) (z := (⟨"com/example/inked_rows/inkedrows/xpath/Axis", "staysInSubtree", "()Z"⟩ : MethodName)) hown (mvT hZ (hw _ (List.mem_of_getElem? (i := 8) rfl))) (mvT hZ (hw _ (List.mem_of_getElem? (i := 9) rfl))) (notFace_of_selects (args := #[]) (mvT hZ (hw _ (List.mem_of_getElem? (i := 11) rfl)))) (mvT hZ (hw _ (List.mem_of_getElem? (i := 11) rfl))) (mvT hZ (hw _ (List.mem_of_getElem? (i := 10) rfl))) (by decide) (backOf (W := 0) (rm2 l Z a0 hw [] b6 b12 b3 b4 b5 b2 h0 n0 Z0 S12 S3 S4 S5 S2) hZ (hw _ (List.mem_of_getElem? (i := 12) rfl)) (hw _ (List.mem_of_getElem? (i := 6) rfl)) (by decide) (by decide)) q16a q16c (g := (mkF m 14 #[.val (.int p0), .val (.int k), .val (.ref b6)] [(.ref b6)])) rfl (by rw [hml]; rfl) (Steps.refl _) (argsL := []) (rest := []) (lenOf pd_1 rfl) rfl (by show 2 * 0 + _ ≤ _; exact Nat.le_of_eq rfl) (hb hby at_14) (fun _ _ => ⟨rfl, e2, (by decide : 0 + 0 ≤ _), (by decide : 0 + 0 ≤ _)⟩)
                dsimp only [Pt.U, Pt.locs, Pt.cells, Pt.slots] at X16 l16 y16 z16 st16 hQ16
                subst l16 y16 z16
                obtain ⟨rfl, N16q, e16⟩ := hQ16
                have N16 := Fr.app N2 N16q
                obtain ⟨_, _, ⟨T17, L17, k17, n17⟩, -, X17, ⟨Lc17, hQ17, l17, y17, z17⟩, st17⟩ := Jvm.LawKit.callS X16 hx (y := (⟨"com/example/inked_rows/inkedrows/xpath/AxisStaysInSubtreePinLaw", "expected", "(I)Z"⟩ : MethodName)) hown (mvT hZ (hw _ (List.mem_of_getElem? (i := 23) rfl))) (mvT hZ (hw _ (List.mem_of_getElem? (i := 24) rfl))) (mvT hZ (hw _ (List.mem_of_getElem? (i := 3) rfl))) (mvT hZ (hw _ (List.mem_of_getElem? (i := 25) rfl))) (by decide) (backOf (W := 1) (rm3 l Z a0 hw [] k h0 n0 Z0 ) hZ (hw _ (List.mem_of_getElem? (i := 25) rfl)) (hw _ (List.mem_of_getElem? (i := 3) rfl)) (by decide) (by decide)) (g := (mkF m 18 #[.val (.int p0), .val (.int k), .val (.ref b6)] [(.int k), (.int (staysV b6 b12 b3 b4 b5 b2))])) rfl (by rw [hml]; rfl) (argsL := [(.int k)]) (rest := [(.int (staysV b6 b12 b3 b4 b5 b2))]) (lenOf pd_2 rfl) rfl (by show 2 * 0 + _ ≤ _; exact Nat.le_of_eq rfl) (hb hby at_18) (fun _ _ => ⟨rfl, e16, (by decide : 0 + 0 ≤ _), (by decide : 0 + 0 ≤ _)⟩)
                dsimp only [Pt.U, Pt.locs, Pt.cells, Pt.slots] at X17 l17 y17 z17 st17 hQ17
                subst l17 y17 z17
                obtain ⟨rfl, N17q, e17⟩ := hQ17
                have N17 := Fr.app N16 N17q
                obtain ⟨fs, hr, hrun, hended, hW, hsame⟩ := X17.leave (v := some (.int (1 : Int32))) (fun h => by rw [Bd.returns] at h; cases h)
                refine ⟨_, _, pre3 _ ?_, hrun, hended, _, _, rfl, ?_, ⟨_, rfl⟩, hW, hsame.mono (by decide) (by decide)⟩
                · show Steps p.tables e below (T2.setTop (mkF m 13 #[.val (.int p0), .val (.int k), .val (.ref b6)] [])) _
                  refine XS.aloadN X2.here hx rfl (hb hby at_13) rfl rfl ?_
                  show Steps p.tables e below (T2.setTop (mkF m 14 #[.val (.int p0), .val (.int k), .val (.ref b6)] [(.ref b6)])) _
                  refine st16.trans ?_
                  show Steps p.tables e below (T16.setTop (mkF m 17 #[.val (.int p0), .val (.int k), .val (.ref b6)] [(.int (staysV b6 b12 b3 b4 b5 b2))])) _
                  refine XS.iloadN X16.here hx rfl (hb hby at_17) rfl ?_
                  show Steps p.tables e below (T16.setTop (mkF m 18 #[.val (.int p0), .val (.int k), .val (.ref b6)] [(.int k), (.int (staysV b6 b12 b3 b4 b5 b2))])) _
                  refine st17 _ ?_
                  show Steps p.tables e below (T17.setTop (mkF m 21 #[.val (.int p0), .val (.int k), .val (.ref b6)] [(.int (exV k)), (.int (staysV b6 b12 b3 b4 b5 b2))])) _
                  refine XS.icmpNo X17.here hx rfl (hb hby at_21) rfl (teq (show (staysV b6 b12 b3 b4 b5 b2) = (exV k) from (by rw [staysV, if_neg (Fld.ne O6 O12 (by decide)), if_neg (Fld.ne O6 O3 (by decide)), if_neg (Fld.ne O6 O4 (by decide)), if_neg (Fld.ne O6 O5 (by decide)), if_neg (Fld.ne O6 O2 (by decide)), hk6]; decide))).2 ?_
                  show Steps p.tables e below (T17.setTop (mkF m 24 #[.val (.int p0), .val (.int k), .val (.ref b6)] [])) _
                  refine XS.iconst X17.here hx rfl (hb hby at_24) ?_
                  show Steps p.tables e below (T17.setTop (mkF m 25 #[.val (.int p0), .val (.int k), .val (.ref b6)] [(.int (1 : Int32))])) _
                  refine XS.goto X17.here hx rfl (pc0 := 25) (pc' := 29) rfl (hb hby at_25) (by decide) (by decide) ?_
                  show Steps p.tables e below (T17.setTop (mkF m 29 #[.val (.int p0), .val (.int k), .val (.ref b6)] [(.int (1 : Int32))])) _
                  exact retN X17 hx (t := .boolean) Bd.returns (by simp) (hb hby at_29) hr
                · show Q0 h0 n0 _ T17.heap _
                  rw [e17]
                  exact ⟨rfl, N17⟩
              · by_cases hk7 : k = (7 : Int32)
                · have ek : pickV k b0 b1 b2 b3 b4 b5 b6 b7 b8 b9 b10 b11 b12 = b7 := by rw [pickV, if_neg hk0, if_neg hk1, if_neg hk2, if_neg hk3, if_neg hk4, if_neg hk5, if_neg hk6, if_pos hk7]
                  rw [ek] at pre3
                  obtain ⟨cq18, kq18, q18a, q18b, q18c⟩ := isOf hZ e2 E7
                  obtain ⟨_, _, ⟨T18, L18, k18, n18⟩, -, X18, ⟨Lc18, hQ18, l18, y18, z18⟩, st18⟩ := X2.virtualBack hx (y := (⟨"com/example/inked_rows/inkedrows/xpath/Axis", "staysInSubtree", "()Z"⟩ : MethodName)) (z := (⟨"com/example/inked_rows/inkedrows/xpath/Axis", "staysInSubtree", "()Z"⟩ : MethodName)) hown (mvT hZ (hw _ (List.mem_of_getElem? (i := 8) rfl))) (mvT hZ (hw _ (List.mem_of_getElem? (i := 9) rfl))) (notFace_of_selects (args := #[]) (mvT hZ (hw _ (List.mem_of_getElem? (i := 11) rfl)))) (mvT hZ (hw _ (List.mem_of_getElem? (i := 11) rfl))) (mvT hZ (hw _ (List.mem_of_getElem? (i := 10) rfl))) (by decide) (backOf (W := 0) (rm2 l Z a0 hw [] b7 b12 b3 b4 b5 b2 h0 n0 Z0 S12 S3 S4 S5 S2) hZ (hw _ (List.mem_of_getElem? (i := 12) rfl)) (hw _ (List.mem_of_getElem? (i := 6) rfl)) (by decide) (by decide)) q18a q18c (g := (mkF m 14 #[.val (.int p0), .val (.int k), .val (.ref b7)] [(.ref b7)])) rfl (by rw [hml]; rfl) (Steps.refl _) (argsL := []) (rest := []) (lenOf pd_1 rfl) rfl (by show 2 * 0 + _ ≤ _; exact Nat.le_of_eq rfl) (hb hby at_14) (fun _ _ => ⟨rfl, e2, (by decide : 0 + 0 ≤ _), (by decide : 0 + 0 ≤ _)⟩)
                  dsimp only [Pt.U, Pt.locs, Pt.cells, Pt.slots] at X18 l18 y18 z18 st18 hQ18
                  subst l18 y18 z18
                  obtain ⟨rfl, N18q, e18⟩ := hQ18
                  have N18 := Fr.app N2 N18q
                  obtain ⟨_, _, ⟨T19, L19, k19, n19⟩, -, X19, ⟨Lc19, hQ19, l19, y19, z19⟩, st19⟩ := Jvm.LawKit.callS X18 hx (y := (⟨"com/example/inked_rows/inkedrows/xpath/AxisStaysInSubtreePinLaw", "expected", "(I)Z"⟩ : MethodName)) hown (mvT hZ (hw _ (List.mem_of_getElem? (i := 23) rfl))) (mvT hZ (hw _ (List.mem_of_getElem? (i := 24) rfl))) (mvT hZ (hw _ (List.mem_of_getElem? (i := 3) rfl))) (mvT hZ (hw _ (List.mem_of_getElem? (i := 25) rfl))) (by decide) (backOf (W := 1) (rm3 l Z a0 hw [] k h0 n0 Z0 ) hZ (hw _ (List.mem_of_getElem? (i := 25) rfl)) (hw _ (List.mem_of_getElem? (i := 3) rfl)) (by decide) (by decide)) (g := (mkF m 18 #[.val (.int p0), .val (.int k), .val (.ref b7)] [(.int k), (.int (staysV b7 b12 b3 b4 b5 b2))])) rfl (by rw [hml]; rfl) (argsL := [(.int k)]) (rest := [(.int (staysV b7 b12 b3 b4 b5 b2))]) (lenOf pd_2 rfl) rfl (by show 2 * 0 + _ ≤ _; exact Nat.le_of_eq rfl) (hb hby at_18) (fun _ _ => ⟨rfl, e18, (by decide : 0 + 0 ≤ _), (by decide : 0 + 0 ≤ _)⟩)
                  dsimp only [Pt.U, Pt.locs, Pt.cells, Pt.slots] at X19 l19 y19 z19 st19 hQ19
                  subst l19 y19 z19
                  obtain ⟨rfl, N19q, e19⟩ := hQ19
                  have N19 := Fr.app N18 N19q
                  obtain ⟨fs, hr, hrun, hended, hW, hsame⟩ := X19.leave (v := some (.int (1 : Int32))) (fun h => by rw [Bd.returns] at h; cases h)
                  refine ⟨_, _, pre3 _ ?_, hrun, hended, _, _, rfl, ?_, ⟨_, rfl⟩, hW, hsame.mono (by decide) (by decide)⟩
                  · show Steps p.tables e below (T2.setTop (mkF m 13 #[.val (.int p0), .val (.int k), .val (.ref b7)] [])) _
                    refine XS.aloadN X2.here hx rfl (hb hby at_13) rfl rfl ?_
                    show Steps p.tables e below (T2.setTop (mkF m 14 #[.val (.int p0), .val (.int k), .val (.ref b7)] [(.ref b7)])) _
                    refine st18.trans ?_
                    show Steps p.tables e below (T18.setTop (mkF m 17 #[.val (.int p0), .val (.int k), .val (.ref b7)] [(.int (staysV b7 b12 b3 b4 b5 b2))])) _
                    refine XS.iloadN X18.here hx rfl (hb hby at_17) rfl ?_
                    show Steps p.tables e below (T18.setTop (mkF m 18 #[.val (.int p0), .val (.int k), .val (.ref b7)] [(.int k), (.int (staysV b7 b12 b3 b4 b5 b2))])) _
                    refine st19 _ ?_
                    show Steps p.tables e below (T19.setTop (mkF m 21 #[.val (.int p0), .val (.int k), .val (.ref b7)] [(.int (exV k)), (.int (staysV b7 b12 b3 b4 b5 b2))])) _
                    refine XS.icmpNo X19.here hx rfl (hb hby at_21) rfl (teq (show (staysV b7 b12 b3 b4 b5 b2) = (exV k) from (by rw [staysV, if_neg (Fld.ne O7 O12 (by decide)), if_neg (Fld.ne O7 O3 (by decide)), if_neg (Fld.ne O7 O4 (by decide)), if_neg (Fld.ne O7 O5 (by decide)), if_neg (Fld.ne O7 O2 (by decide)), hk7]; decide))).2 ?_
                    show Steps p.tables e below (T19.setTop (mkF m 24 #[.val (.int p0), .val (.int k), .val (.ref b7)] [])) _
                    refine XS.iconst X19.here hx rfl (hb hby at_24) ?_
                    show Steps p.tables e below (T19.setTop (mkF m 25 #[.val (.int p0), .val (.int k), .val (.ref b7)] [(.int (1 : Int32))])) _
                    refine XS.goto X19.here hx rfl (pc0 := 25) (pc' := 29) rfl (hb hby at_25) (by decide) (by decide) ?_
                    show Steps p.tables e below (T19.setTop (mkF m 29 #[.val (.int p0), .val (.int k), .val (.ref b7)] [(.int (1 : Int32))])) _
                    exact retN X19 hx (t := .boolean) Bd.returns (by simp) (hb hby at_29) hr
                  · show Q0 h0 n0 _ T19.heap _
                    rw [e19]
                    exact ⟨rfl, N19⟩
                · by_cases hk8 : k = (8 : Int32)
                  · have ek : pickV k b0 b1 b2 b3 b4 b5 b6 b7 b8 b9 b10 b11 b12 = b8 := by rw [pickV, if_neg hk0, if_neg hk1, if_neg hk2, if_neg hk3, if_neg hk4, if_neg hk5, if_neg hk6, if_neg hk7, if_pos hk8]
                    rw [ek] at pre3
                    obtain ⟨cq20, kq20, q20a, q20b, q20c⟩ := isOf hZ e2 E8
                    obtain ⟨_, _, ⟨T20, L20, k20, n20⟩, -, X20, ⟨Lc20, hQ20, l20, y20, z20⟩, st20⟩ := X2.virtualBack hx (y := (⟨"com/example/inked_rows/inkedrows/xpath/Axis", "staysInSubtree", "()Z"⟩ : MethodName)) (z := (⟨"com/example/inked_rows/inkedrows/xpath/Axis", "staysInSubtree", "()Z"⟩ : MethodName)) hown (mvT hZ (hw _ (List.mem_of_getElem? (i := 8) rfl))) (mvT hZ (hw _ (List.mem_of_getElem? (i := 9) rfl))) (notFace_of_selects (args := #[]) (mvT hZ (hw _ (List.mem_of_getElem? (i := 11) rfl)))) (mvT hZ (hw _ (List.mem_of_getElem? (i := 11) rfl))) (mvT hZ (hw _ (List.mem_of_getElem? (i := 10) rfl))) (by decide) (backOf (W := 0) (rm2 l Z a0 hw [] b8 b12 b3 b4 b5 b2 h0 n0 Z0 S12 S3 S4 S5 S2) hZ (hw _ (List.mem_of_getElem? (i := 12) rfl)) (hw _ (List.mem_of_getElem? (i := 6) rfl)) (by decide) (by decide)) q20a q20c (g := (mkF m 14 #[.val (.int p0), .val (.int k), .val (.ref b8)] [(.ref b8)])) rfl (by rw [hml]; rfl) (Steps.refl _) (argsL := []) (rest := []) (lenOf pd_1 rfl) rfl (by show 2 * 0 + _ ≤ _; exact Nat.le_of_eq rfl) (hb hby at_14) (fun _ _ => ⟨rfl, e2, (by decide : 0 + 0 ≤ _), (by decide : 0 + 0 ≤ _)⟩)
                    dsimp only [Pt.U, Pt.locs, Pt.cells, Pt.slots] at X20 l20 y20 z20 st20 hQ20
                    subst l20 y20 z20
                    obtain ⟨rfl, N20q, e20⟩ := hQ20
                    have N20 := Fr.app N2 N20q
                    obtain ⟨_, _, ⟨T21, L21, k21, n21⟩, -, X21, ⟨Lc21, hQ21, l21, y21, z21⟩, st21⟩ := Jvm.LawKit.callS X20 hx (y := (⟨"com/example/inked_rows/inkedrows/xpath/AxisStaysInSubtreePinLaw", "expected", "(I)Z"⟩ : MethodName)) hown (mvT hZ (hw _ (List.mem_of_getElem? (i := 23) rfl))) (mvT hZ (hw _ (List.mem_of_getElem? (i := 24) rfl))) (mvT hZ (hw _ (List.mem_of_getElem? (i := 3) rfl))) (mvT hZ (hw _ (List.mem_of_getElem? (i := 25) rfl))) (by decide) (backOf (W := 1) (rm3 l Z a0 hw [] k h0 n0 Z0 ) hZ (hw _ (List.mem_of_getElem? (i := 25) rfl)) (hw _ (List.mem_of_getElem? (i := 3) rfl)) (by decide) (by decide)) (g := (mkF m 18 #[.val (.int p0), .val (.int k), .val (.ref b8)] [(.int k), (.int (staysV b8 b12 b3 b4 b5 b2))])) rfl (by rw [hml]; rfl) (argsL := [(.int k)]) (rest := [(.int (staysV b8 b12 b3 b4 b5 b2))]) (lenOf pd_2 rfl) rfl (by show 2 * 0 + _ ≤ _; exact Nat.le_of_eq rfl) (hb hby at_18) (fun _ _ => ⟨rfl, e20, (by decide : 0 + 0 ≤ _), (by decide : 0 + 0 ≤ _)⟩)
                    dsimp only [Pt.U, Pt.locs, Pt.cells, Pt.slots] at X21 l21 y21 z21 st21 hQ21
                    subst l21 y21 z21
                    obtain ⟨rfl, N21q, e21⟩ := hQ21
                    have N21 := Fr.app N20 N21q
                    obtain ⟨fs, hr, hrun, hended, hW, hsame⟩ := X21.leave (v := some (.int (1 : Int32))) (fun h => by rw [Bd.returns] at h; cases h)
                    refine ⟨_, _, pre3 _ ?_, hrun, hended, _, _, rfl, ?_, ⟨_, rfl⟩, hW, hsame.mono (by decide) (by decide)⟩
                    · show Steps p.tables e below (T2.setTop (mkF m 13 #[.val (.int p0), .val (.int k), .val (.ref b8)] [])) _
                      refine XS.aloadN X2.here hx rfl (hb hby at_13) rfl rfl ?_
                      show Steps p.tables e below (T2.setTop (mkF m 14 #[.val (.int p0), .val (.int k), .val (.ref b8)] [(.ref b8)])) _
                      refine st20.trans ?_
                      show Steps p.tables e below (T20.setTop (mkF m 17 #[.val (.int p0), .val (.int k), .val (.ref b8)] [(.int (staysV b8 b12 b3 b4 b5 b2))])) _
                      refine XS.iloadN X20.here hx rfl (hb hby at_17) rfl ?_
                      show Steps p.tables e below (T20.setTop (mkF m 18 #[.val (.int p0), .val (.int k), .val (.ref b8)] [(.int k), (.int (staysV b8 b12 b3 b4 b5 b2))])) _
                      refine st21 _ ?_
                      show Steps p.tables e below (T21.setTop (mkF m 21 #[.val (.int p0), .val (.int k), .val (.ref b8)] [(.int (exV k)), (.int (staysV b8 b12 b3 b4 b5 b2))])) _
                      refine XS.icmpNo X21.here hx rfl (hb hby at_21) rfl (teq (show (staysV b8 b12 b3 b4 b5 b2) = (exV k) from (by rw [staysV, if_neg (Fld.ne O8 O12 (by decide)), if_neg (Fld.ne O8 O3 (by decide)), if_neg (Fld.ne O8 O4 (by decide)), if_neg (Fld.ne O8 O5 (by decide)), if_neg (Fld.ne O8 O2 (by decide)), hk8]; decide))).2 ?_
                      show Steps p.tables e below (T21.setTop (mkF m 24 #[.val (.int p0), .val (.int k), .val (.ref b8)] [])) _
                      refine XS.iconst X21.here hx rfl (hb hby at_24) ?_
                      show Steps p.tables e below (T21.setTop (mkF m 25 #[.val (.int p0), .val (.int k), .val (.ref b8)] [(.int (1 : Int32))])) _
                      refine XS.goto X21.here hx rfl (pc0 := 25) (pc' := 29) rfl (hb hby at_25) (by decide) (by decide) ?_
                      show Steps p.tables e below (T21.setTop (mkF m 29 #[.val (.int p0), .val (.int k), .val (.ref b8)] [(.int (1 : Int32))])) _
                      exact retN X21 hx (t := .boolean) Bd.returns (by simp) (hb hby at_29) hr
                    · show Q0 h0 n0 _ T21.heap _
                      rw [e21]
                      exact ⟨rfl, N21⟩
                  · by_cases hk9 : k = (9 : Int32)
                    · have ek : pickV k b0 b1 b2 b3 b4 b5 b6 b7 b8 b9 b10 b11 b12 = b9 := by rw [pickV, if_neg hk0, if_neg hk1, if_neg hk2, if_neg hk3, if_neg hk4, if_neg hk5, if_neg hk6, if_neg hk7, if_neg hk8, if_pos hk9]
                      rw [ek] at pre3
                      obtain ⟨cq22, kq22, q22a, q22b, q22c⟩ := isOf hZ e2 E9
                      obtain ⟨_, _, ⟨T22, L22, k22, n22⟩, -, X22, ⟨Lc22, hQ22, l22, y22, z22⟩, st22⟩ := X2.virtualBack hx (y := (⟨"com/example/inked_rows/inkedrows/xpath/Axis", "staysInSubtree", "()Z"⟩ : MethodName)) (z := (⟨"com/example/inked_rows/inkedrows/xpath/Axis", "staysInSubtree", "()Z"⟩ : MethodName)) hown (mvT hZ (hw _ (List.mem_of_getElem? (i := 8) rfl))) (mvT hZ (hw _ (List.mem_of_getElem? (i := 9) rfl))) (notFace_of_selects (args := #[]) (mvT hZ (hw _ (List.mem_of_getElem? (i := 11) rfl)))) (mvT hZ (hw _ (List.mem_of_getElem? (i := 11) rfl))) (mvT hZ (hw _ (List.mem_of_getElem? (i := 10) rfl))) (by decide) (backOf (W := 0) (rm2 l Z a0 hw [] b9 b12 b3 b4 b5 b2 h0 n0 Z0 S12 S3 S4 S5 S2) hZ (hw _ (List.mem_of_getElem? (i := 12) rfl)) (hw _ (List.mem_of_getElem? (i := 6) rfl)) (by decide) (by decide)) q22a q22c (g := (mkF m 14 #[.val (.int p0), .val (.int k), .val (.ref b9)] [(.ref b9)])) rfl (by rw [hml]; rfl) (Steps.refl _) (argsL := []) (rest := []) (lenOf pd_1 rfl) rfl (by show 2 * 0 + _ ≤ _; exact Nat.le_of_eq rfl) (hb hby at_14) (fun _ _ => ⟨rfl, e2, (by decide : 0 + 0 ≤ _), (by decide : 0 + 0 ≤ _)⟩)
                      dsimp only [Pt.U, Pt.locs, Pt.cells, Pt.slots] at X22 l22 y22 z22 st22 hQ22
                      subst l22 y22 z22
                      obtain ⟨rfl, N22q, e22⟩ := hQ22
                      have N22 := Fr.app N2 N22q
                      obtain ⟨_, _, ⟨T23, L23, k23, n23⟩, -, X23, ⟨Lc23, hQ23, l23, y23, z23⟩, st23⟩ := Jvm.LawKit.callS X22 hx (y := (⟨"com/example/inked_rows/inkedrows/xpath/AxisStaysInSubtreePinLaw", "expected", "(I)Z"⟩ : MethodName)) hown (mvT hZ (hw _ (List.mem_of_getElem? (i := 23) rfl))) (mvT hZ (hw _ (List.mem_of_getElem? (i := 24) rfl))) (mvT hZ (hw _ (List.mem_of_getElem? (i := 3) rfl))) (mvT hZ (hw _ (List.mem_of_getElem? (i := 25) rfl))) (by decide) (backOf (W := 1) (rm3 l Z a0 hw [] k h0 n0 Z0 ) hZ (hw _ (List.mem_of_getElem? (i := 25) rfl)) (hw _ (List.mem_of_getElem? (i := 3) rfl)) (by decide) (by decide)) (g := (mkF m 18 #[.val (.int p0), .val (.int k), .val (.ref b9)] [(.int k), (.int (staysV b9 b12 b3 b4 b5 b2))])) rfl (by rw [hml]; rfl) (argsL := [(.int k)]) (rest := [(.int (staysV b9 b12 b3 b4 b5 b2))]) (lenOf pd_2 rfl) rfl (by show 2 * 0 + _ ≤ _; exact Nat.le_of_eq rfl) (hb hby at_18) (fun _ _ => ⟨rfl, e22, (by decide : 0 + 0 ≤ _), (by decide : 0 + 0 ≤ _)⟩)
                      dsimp only [Pt.U, Pt.locs, Pt.cells, Pt.slots] at X23 l23 y23 z23 st23 hQ23
                      subst l23 y23 z23
                      obtain ⟨rfl, N23q, e23⟩ := hQ23
                      have N23 := Fr.app N22 N23q
                      obtain ⟨fs, hr, hrun, hended, hW, hsame⟩ := X23.leave (v := some (.int (1 : Int32))) (fun h => by rw [Bd.returns] at h; cases h)
                      refine ⟨_, _, pre3 _ ?_, hrun, hended, _, _, rfl, ?_, ⟨_, rfl⟩, hW, hsame.mono (by decide) (by decide)⟩
                      · show Steps p.tables e below (T2.setTop (mkF m 13 #[.val (.int p0), .val (.int k), .val (.ref b9)] [])) _
                        refine XS.aloadN X2.here hx rfl (hb hby at_13) rfl rfl ?_
                        show Steps p.tables e below (T2.setTop (mkF m 14 #[.val (.int p0), .val (.int k), .val (.ref b9)] [(.ref b9)])) _
                        refine st22.trans ?_
                        show Steps p.tables e below (T22.setTop (mkF m 17 #[.val (.int p0), .val (.int k), .val (.ref b9)] [(.int (staysV b9 b12 b3 b4 b5 b2))])) _
                        refine XS.iloadN X22.here hx rfl (hb hby at_17) rfl ?_
                        show Steps p.tables e below (T22.setTop (mkF m 18 #[.val (.int p0), .val (.int k), .val (.ref b9)] [(.int k), (.int (staysV b9 b12 b3 b4 b5 b2))])) _
                        refine st23 _ ?_
                        show Steps p.tables e below (T23.setTop (mkF m 21 #[.val (.int p0), .val (.int k), .val (.ref b9)] [(.int (exV k)), (.int (staysV b9 b12 b3 b4 b5 b2))])) _
                        refine XS.icmpNo X23.here hx rfl (hb hby at_21) rfl (teq (show (staysV b9 b12 b3 b4 b5 b2) = (exV k) from (by rw [staysV, if_neg (Fld.ne O9 O12 (by decide)), if_neg (Fld.ne O9 O3 (by decide)), if_neg (Fld.ne O9 O4 (by decide)), if_neg (Fld.ne O9 O5 (by decide)), if_neg (Fld.ne O9 O2 (by decide)), hk9]; decide))).2 ?_
                        show Steps p.tables e below (T23.setTop (mkF m 24 #[.val (.int p0), .val (.int k), .val (.ref b9)] [])) _
                        refine XS.iconst X23.here hx rfl (hb hby at_24) ?_
                        show Steps p.tables e below (T23.setTop (mkF m 25 #[.val (.int p0), .val (.int k), .val (.ref b9)] [(.int (1 : Int32))])) _
                        refine XS.goto X23.here hx rfl (pc0 := 25) (pc' := 29) rfl (hb hby at_25) (by decide) (by decide) ?_
                        show Steps p.tables e below (T23.setTop (mkF m 29 #[.val (.int p0), .val (.int k), .val (.ref b9)] [(.int (1 : Int32))])) _
                        exact retN X23 hx (t := .boolean) Bd.returns (by simp) (hb hby at_29) hr
                      · show Q0 h0 n0 _ T23.heap _
                        rw [e23]
                        exact ⟨rfl, N23⟩
                    · by_cases hk10 : k = (10 : Int32)
                      · have ek : pickV k b0 b1 b2 b3 b4 b5 b6 b7 b8 b9 b10 b11 b12 = b10 := by rw [pickV, if_neg hk0, if_neg hk1, if_neg hk2, if_neg hk3, if_neg hk4, if_neg hk5, if_neg hk6, if_neg hk7, if_neg hk8, if_neg hk9, if_pos hk10]
                        rw [ek] at pre3
                        obtain ⟨cq24, kq24, q24a, q24b, q24c⟩ := isOf hZ e2 E10
                        obtain ⟨_, _, ⟨T24, L24, k24, n24⟩, -, X24, ⟨Lc24, hQ24, l24, y24, z24⟩, st24⟩ := X2.virtualBack hx (y := (⟨"com/example/inked_rows/inkedrows/xpath/Axis", "staysInSubtree", "()Z"⟩ : MethodName)) (z := (⟨"com/example/inked_rows/inkedrows/xpath/Axis", "staysInSubtree", "()Z"⟩ : MethodName)) hown (mvT hZ (hw _ (List.mem_of_getElem? (i := 8) rfl))) (mvT hZ (hw _ (List.mem_of_getElem? (i := 9) rfl))) (notFace_of_selects (args := #[]) (mvT hZ (hw _ (List.mem_of_getElem? (i := 11) rfl)))) (mvT hZ (hw _ (List.mem_of_getElem? (i := 11) rfl))) (mvT hZ (hw _ (List.mem_of_getElem? (i := 10) rfl))) (by decide) (backOf (W := 0) (rm2 l Z a0 hw [] b10 b12 b3 b4 b5 b2 h0 n0 Z0 S12 S3 S4 S5 S2) hZ (hw _ (List.mem_of_getElem? (i := 12) rfl)) (hw _ (List.mem_of_getElem? (i := 6) rfl)) (by decide) (by decide)) q24a q24c (g := (mkF m 14 #[.val (.int p0), .val (.int k), .val (.ref b10)] [(.ref b10)])) rfl (by rw [hml]; rfl) (Steps.refl _) (argsL := []) (rest := []) (lenOf pd_1 rfl) rfl (by show 2 * 0 + _ ≤ _; exact Nat.le_of_eq rfl) (hb hby at_14) (fun _ _ => ⟨rfl, e2, (by decide : 0 + 0 ≤ _), (by decide : 0 + 0 ≤ _)⟩)
                        dsimp only [Pt.U, Pt.locs, Pt.cells, Pt.slots] at X24 l24 y24 z24 st24 hQ24
                        subst l24 y24 z24
                        obtain ⟨rfl, N24q, e24⟩ := hQ24
                        have N24 := Fr.app N2 N24q
                        obtain ⟨_, _, ⟨T25, L25, k25, n25⟩, -, X25, ⟨Lc25, hQ25, l25, y25, z25⟩, st25⟩ := Jvm.LawKit.callS X24 hx (y := (⟨"com/example/inked_rows/inkedrows/xpath/AxisStaysInSubtreePinLaw", "expected", "(I)Z"⟩ : MethodName)) hown (mvT hZ (hw _ (List.mem_of_getElem? (i := 23) rfl))) (mvT hZ (hw _ (List.mem_of_getElem? (i := 24) rfl))) (mvT hZ (hw _ (List.mem_of_getElem? (i := 3) rfl))) (mvT hZ (hw _ (List.mem_of_getElem? (i := 25) rfl))) (by decide) (backOf (W := 1) (rm3 l Z a0 hw [] k h0 n0 Z0 ) hZ (hw _ (List.mem_of_getElem? (i := 25) rfl)) (hw _ (List.mem_of_getElem? (i := 3) rfl)) (by decide) (by decide)) (g := (mkF m 18 #[.val (.int p0), .val (.int k), .val (.ref b10)] [(.int k), (.int (staysV b10 b12 b3 b4 b5 b2))])) rfl (by rw [hml]; rfl) (argsL := [(.int k)]) (rest := [(.int (staysV b10 b12 b3 b4 b5 b2))]) (lenOf pd_2 rfl) rfl (by show 2 * 0 + _ ≤ _; exact Nat.le_of_eq rfl) (hb hby at_18) (fun _ _ => ⟨rfl, e24, (by decide : 0 + 0 ≤ _), (by decide : 0 + 0 ≤ _)⟩)
                        dsimp only [Pt.U, Pt.locs, Pt.cells, Pt.slots] at X25 l25 y25 z25 st25 hQ25
                        subst l25 y25 z25
                        obtain ⟨rfl, N25q, e25⟩ := hQ25
                        have N25 := Fr.app N24 N25q
                        obtain ⟨fs, hr, hrun, hended, hW, hsame⟩ := X25.leave (v := some (.int (1 : Int32))) (fun h => by rw [Bd.returns] at h; cases h)
                        refine ⟨_, _, pre3 _ ?_, hrun, hended, _, _, rfl, ?_, ⟨_, rfl⟩, hW, hsame.mono (by decide) (by decide)⟩
                        · show Steps p.tables e below (T2.setTop (mkF m 13 #[.val (.int p0), .val (.int k), .val (.ref b10)] [])) _
                          refine XS.aloadN X2.here hx rfl (hb hby at_13) rfl rfl ?_
                          show Steps p.tables e below (T2.setTop (mkF m 14 #[.val (.int p0), .val (.int k), .val (.ref b10)] [(.ref b10)])) _
                          refine st24.trans ?_
                          show Steps p.tables e below (T24.setTop (mkF m 17 #[.val (.int p0), .val (.int k), .val (.ref b10)] [(.int (staysV b10 b12 b3 b4 b5 b2))])) _
                          refine XS.iloadN X24.here hx rfl (hb hby at_17) rfl ?_
                          show Steps p.tables e below (T24.setTop (mkF m 18 #[.val (.int p0), .val (.int k), .val (.ref b10)] [(.int k), (.int (staysV b10 b12 b3 b4 b5 b2))])) _
                          refine st25 _ ?_
                          show Steps p.tables e below (T25.setTop (mkF m 21 #[.val (.int p0), .val (.int k), .val (.ref b10)] [(.int (exV k)), (.int (staysV b10 b12 b3 b4 b5 b2))])) _
                          refine XS.icmpNo X25.here hx rfl (hb hby at_21) rfl (teq (show (staysV b10 b12 b3 b4 b5 b2) = (exV k) from (by rw [staysV, if_neg (Fld.ne O10 O12 (by decide)), if_neg (Fld.ne O10 O3 (by decide)), if_neg (Fld.ne O10 O4 (by decide)), if_neg (Fld.ne O10 O5 (by decide)), if_neg (Fld.ne O10 O2 (by decide)), hk10]; decide))).2 ?_
                          show Steps p.tables e below (T25.setTop (mkF m 24 #[.val (.int p0), .val (.int k), .val (.ref b10)] [])) _
                          refine XS.iconst X25.here hx rfl (hb hby at_24) ?_
                          show Steps p.tables e below (T25.setTop (mkF m 25 #[.val (.int p0), .val (.int k), .val (.ref b10)] [(.int (1 : Int32))])) _
                          refine XS.goto X25.here hx rfl (pc0 := 25) (pc' := 29) rfl (hb hby at_25) (by decide) (by decide) ?_
                          show Steps p.tables e below (T25.setTop (mkF m 29 #[.val (.int p0), .val (.int k), .val (.ref b10)] [(.int (1 : Int32))])) _
                          exact retN X25 hx (t := .boolean) Bd.returns (by simp) (hb hby at_29) hr
                        · show Q0 h0 n0 _ T25.heap _
                          rw [e25]
                          exact ⟨rfl, N25⟩
                      · by_cases hk11 : k = (11 : Int32)
                        · have ek : pickV k b0 b1 b2 b3 b4 b5 b6 b7 b8 b9 b10 b11 b12 = b11 := by rw [pickV, if_neg hk0, if_neg hk1, if_neg hk2, if_neg hk3, if_neg hk4, if_neg hk5, if_neg hk6, if_neg hk7, if_neg hk8, if_neg hk9, if_neg hk10, if_pos hk11]
                          rw [ek] at pre3
                          obtain ⟨cq26, kq26, q26a, q26b, q26c⟩ := isOf hZ e2 E11
                          obtain ⟨_, _, ⟨T26, L26, k26, n26⟩, -, X26, ⟨Lc26, hQ26, l26, y26, z26⟩, st26⟩ := X2.virtualBack hx (y := (⟨"com/example/inked_rows/inkedrows/xpath/Axis", "staysInSubtree", "()Z"⟩ : MethodName)) (z := (⟨"com/example/inked_rows/inkedrows/xpath/Axis", "staysInSubtree", "()Z"⟩ : MethodName)) hown (mvT hZ (hw _ (List.mem_of_getElem? (i := 8) rfl))) (mvT hZ (hw _ (List.mem_of_getElem? (i := 9) rfl))) (notFace_of_selects (args := #[]) (mvT hZ (hw _ (List.mem_of_getElem? (i := 11) rfl)))) (mvT hZ (hw _ (List.mem_of_getElem? (i := 11) rfl))) (mvT hZ (hw _ (List.mem_of_getElem? (i := 10) rfl))) (by decide) (backOf (W := 0) (rm2 l Z a0 hw [] b11 b12 b3 b4 b5 b2 h0 n0 Z0 S12 S3 S4 S5 S2) hZ (hw _ (List.mem_of_getElem? (i := 12) rfl)) (hw _ (List.mem_of_getElem? (i := 6) rfl)) (by decide) (by decide)) q26a q26c (g := (mkF m 14 #[.val (.int p0), .val (.int k), .val (.ref b11)] [(.ref b11)])) rfl (by rw [hml]; rfl) (Steps.refl _) (argsL := []) (rest := []) (lenOf pd_1 rfl) rfl (by show 2 * 0 + _ ≤ _; exact Nat.le_of_eq rfl) (hb hby at_14) (fun _ _ => ⟨rfl, e2, (by decide : 0 + 0 ≤ _), (by decide : 0 + 0 ≤ _)⟩)
                          dsimp only [Pt.U, Pt.locs, Pt.cells, Pt.slots] at X26 l26 y26 z26 st26 hQ26
                          subst l26 y26 z26
                          obtain ⟨rfl, N26q, e26⟩ := hQ26
                          have N26 := Fr.app N2 N26q
                          obtain ⟨_, _, ⟨T27, L27, k27, n27⟩, -, X27, ⟨Lc27, hQ27, l27, y27, z27⟩, st27⟩ := Jvm.LawKit.callS X26 hx (y := (⟨"com/example/inked_rows/inkedrows/xpath/AxisStaysInSubtreePinLaw", "expected", "(I)Z"⟩ : MethodName)) hown (mvT hZ (hw _ (List.mem_of_getElem? (i := 23) rfl))) (mvT hZ (hw _ (List.mem_of_getElem? (i := 24) rfl))) (mvT hZ (hw _ (List.mem_of_getElem? (i := 3) rfl))) (mvT hZ (hw _ (List.mem_of_getElem? (i := 25) rfl))) (by decide) (backOf (W := 1) (rm3 l Z a0 hw [] k h0 n0 Z0 ) hZ (hw _ (List.mem_of_getElem? (i := 25) rfl)) (hw _ (List.mem_of_getElem? (i := 3) rfl)) (by decide) (by decide)) (g := (mkF m 18 #[.val (.int p0), .val (.int k), .val (.ref b11)] [(.int k), (.int (staysV b11 b12 b3 b4 b5 b2))])) rfl (by rw [hml]; rfl) (argsL := [(.int k)]) (rest := [(.int (staysV b11 b12 b3 b4 b5 b2))]) (lenOf pd_2 rfl) rfl (by show 2 * 0 + _ ≤ _; exact Nat.le_of_eq rfl) (hb hby at_18) (fun _ _ => ⟨rfl, e26, (by decide : 0 + 0 ≤ _), (by decide : 0 + 0 ≤ _)⟩)
                          dsimp only [Pt.U, Pt.locs, Pt.cells, Pt.slots] at X27 l27 y27 z27 st27 hQ27
                          subst l27 y27 z27
                          obtain ⟨rfl, N27q, e27⟩ := hQ27
                          have N27 := Fr.app N26 N27q
                          obtain ⟨fs, hr, hrun, hended, hW, hsame⟩ := X27.leave (v := some (.int (1 : Int32))) (fun h => by rw [Bd.returns] at h; cases h)
                          refine ⟨_, _, pre3 _ ?_, hrun, hended, _, _, rfl, ?_, ⟨_, rfl⟩, hW, hsame.mono (by decide) (by decide)⟩
                          · show Steps p.tables e below (T2.setTop (mkF m 13 #[.val (.int p0), .val (.int k), .val (.ref b11)] [])) _
                            refine XS.aloadN X2.here hx rfl (hb hby at_13) rfl rfl ?_
                            show Steps p.tables e below (T2.setTop (mkF m 14 #[.val (.int p0), .val (.int k), .val (.ref b11)] [(.ref b11)])) _
                            refine st26.trans ?_
                            show Steps p.tables e below (T26.setTop (mkF m 17 #[.val (.int p0), .val (.int k), .val (.ref b11)] [(.int (staysV b11 b12 b3 b4 b5 b2))])) _
                            refine XS.iloadN X26.here hx rfl (hb hby at_17) rfl ?_
                            show Steps p.tables e below (T26.setTop (mkF m 18 #[.val (.int p0), .val (.int k), .val (.ref b11)] [(.int k), (.int (staysV b11 b12 b3 b4 b5 b2))])) _
                            refine st27 _ ?_
                            show Steps p.tables e below (T27.setTop (mkF m 21 #[.val (.int p0), .val (.int k), .val (.ref b11)] [(.int (exV k)), (.int (staysV b11 b12 b3 b4 b5 b2))])) _
                            refine XS.icmpNo X27.here hx rfl (hb hby at_21) rfl (teq (show (staysV b11 b12 b3 b4 b5 b2) = (exV k) from (by rw [staysV, if_neg (Fld.ne O11 O12 (by decide)), if_neg (Fld.ne O11 O3 (by decide)), if_neg (Fld.ne O11 O4 (by decide)), if_neg (Fld.ne O11 O5 (by decide)), if_neg (Fld.ne O11 O2 (by decide)), hk11]; decide))).2 ?_
                            show Steps p.tables e below (T27.setTop (mkF m 24 #[.val (.int p0), .val (.int k), .val (.ref b11)] [])) _
                            refine XS.iconst X27.here hx rfl (hb hby at_24) ?_
                            show Steps p.tables e below (T27.setTop (mkF m 25 #[.val (.int p0), .val (.int k), .val (.ref b11)] [(.int (1 : Int32))])) _
                            refine XS.goto X27.here hx rfl (pc0 := 25) (pc' := 29) rfl (hb hby at_25) (by decide) (by decide) ?_
                            show Steps p.tables e below (T27.setTop (mkF m 29 #[.val (.int p0), .val (.int k), .val (.ref b11)] [(.int (1 : Int32))])) _
                            exact retN X27 hx (t := .boolean) Bd.returns (by simp) (hb hby at_29) hr
                          · show Q0 h0 n0 _ T27.heap _
                            rw [e27]
                            exact ⟨rfl, N27⟩
                        · have hk12 : k = (12 : Int32) := own_k12 p0 k hk hk0 hk1 hk2 hk3 hk4 hk5 hk6 hk7 hk8 hk9 hk10 hk11
                          have ek : pickV k b0 b1 b2 b3 b4 b5 b6 b7 b8 b9 b10 b11 b12 = b12 := by rw [pickV, if_neg hk0, if_neg hk1, if_neg hk2, if_neg hk3, if_neg hk4, if_neg hk5, if_neg hk6, if_neg hk7, if_neg hk8, if_neg hk9, if_neg hk10, if_neg hk11]
                          rw [ek] at pre3
                          obtain ⟨cq28, kq28, q28a, q28b, q28c⟩ := isOf hZ e2 E12
                          obtain ⟨_, _, ⟨T28, L28, k28, n28⟩, -, X28, ⟨Lc28, hQ28, l28, y28, z28⟩, st28⟩ := X2.virtualBack hx (y := (⟨"com/example/inked_rows/inkedrows/xpath/Axis", "staysInSubtree", "()Z"⟩ : MethodName)) (z := (⟨"com/example/inked_rows/inkedrows/xpath/Axis", "staysInSubtree", "()Z"⟩ : MethodName)) hown (mvT hZ (hw _ (List.mem_of_getElem? (i := 8) rfl))) (mvT hZ (hw _ (List.mem_of_getElem? (i := 9) rfl))) (notFace_of_selects (args := #[]) (mvT hZ (hw _ (List.mem_of_getElem? (i := 11) rfl)))) (mvT hZ (hw _ (List.mem_of_getElem? (i := 11) rfl))) (mvT hZ (hw _ (List.mem_of_getElem? (i := 10) rfl))) (by decide) (backOf (W := 0) (rm2 l Z a0 hw [] b12 b12 b3 b4 b5 b2 h0 n0 Z0 S12 S3 S4 S5 S2) hZ (hw _ (List.mem_of_getElem? (i := 12) rfl)) (hw _ (List.mem_of_getElem? (i := 6) rfl)) (by decide) (by decide)) q28a q28c (g := (mkF m 14 #[.val (.int p0), .val (.int k), .val (.ref b12)] [(.ref b12)])) rfl (by rw [hml]; rfl) (Steps.refl _) (argsL := []) (rest := []) (lenOf pd_1 rfl) rfl (by show 2 * 0 + _ ≤ _; exact Nat.le_of_eq rfl) (hb hby at_14) (fun _ _ => ⟨rfl, e2, (by decide : 0 + 0 ≤ _), (by decide : 0 + 0 ≤ _)⟩)
                          dsimp only [Pt.U, Pt.locs, Pt.cells, Pt.slots] at X28 l28 y28 z28 st28 hQ28
                          subst l28 y28 z28
                          obtain ⟨rfl, N28q, e28⟩ := hQ28
                          have N28 := Fr.app N2 N28q
                          obtain ⟨_, _, ⟨T29, L29, k29, n29⟩, -, X29, ⟨Lc29, hQ29, l29, y29, z29⟩, st29⟩ := Jvm.LawKit.callS X28 hx (y := (⟨"com/example/inked_rows/inkedrows/xpath/AxisStaysInSubtreePinLaw", "expected", "(I)Z"⟩ : MethodName)) hown (mvT hZ (hw _ (List.mem_of_getElem? (i := 23) rfl))) (mvT hZ (hw _ (List.mem_of_getElem? (i := 24) rfl))) (mvT hZ (hw _ (List.mem_of_getElem? (i := 3) rfl))) (mvT hZ (hw _ (List.mem_of_getElem? (i := 25) rfl))) (by decide) (backOf (W := 1) (rm3 l Z a0 hw [] k h0 n0 Z0 ) hZ (hw _ (List.mem_of_getElem? (i := 25) rfl)) (hw _ (List.mem_of_getElem? (i := 3) rfl)) (by decide) (by decide)) (g := (mkF m 18 #[.val (.int p0), .val (.int k), .val (.ref b12)] [(.int k), (.int (staysV b12 b12 b3 b4 b5 b2))])) rfl (by rw [hml]; rfl) (argsL := [(.int k)]) (rest := [(.int (staysV b12 b12 b3 b4 b5 b2))]) (lenOf pd_2 rfl) rfl (by show 2 * 0 + _ ≤ _; exact Nat.le_of_eq rfl) (hb hby at_18) (fun _ _ => ⟨rfl, e28, (by decide : 0 + 0 ≤ _), (by decide : 0 + 0 ≤ _)⟩)
                          dsimp only [Pt.U, Pt.locs, Pt.cells, Pt.slots] at X29 l29 y29 z29 st29 hQ29
                          subst l29 y29 z29
                          obtain ⟨rfl, N29q, e29⟩ := hQ29
                          have N29 := Fr.app N28 N29q
                          obtain ⟨fs, hr, hrun, hended, hW, hsame⟩ := X29.leave (v := some (.int (1 : Int32))) (fun h => by rw [Bd.returns] at h; cases h)
                          refine ⟨_, _, pre3 _ ?_, hrun, hended, _, _, rfl, ?_, ⟨_, rfl⟩, hW, hsame.mono (by decide) (by decide)⟩
                          · show Steps p.tables e below (T2.setTop (mkF m 13 #[.val (.int p0), .val (.int k), .val (.ref b12)] [])) _
                            refine XS.aloadN X2.here hx rfl (hb hby at_13) rfl rfl ?_
                            show Steps p.tables e below (T2.setTop (mkF m 14 #[.val (.int p0), .val (.int k), .val (.ref b12)] [(.ref b12)])) _
                            refine st28.trans ?_
                            show Steps p.tables e below (T28.setTop (mkF m 17 #[.val (.int p0), .val (.int k), .val (.ref b12)] [(.int (staysV b12 b12 b3 b4 b5 b2))])) _
                            refine XS.iloadN X28.here hx rfl (hb hby at_17) rfl ?_
                            show Steps p.tables e below (T28.setTop (mkF m 18 #[.val (.int p0), .val (.int k), .val (.ref b12)] [(.int k), (.int (staysV b12 b12 b3 b4 b5 b2))])) _
                            refine st29 _ ?_
                            show Steps p.tables e below (T29.setTop (mkF m 21 #[.val (.int p0), .val (.int k), .val (.ref b12)] [(.int (exV k)), (.int (staysV b12 b12 b3 b4 b5 b2))])) _
                            refine XS.icmpNo X29.here hx rfl (hb hby at_21) rfl (teq (show (staysV b12 b12 b3 b4 b5 b2) = (exV k) from (by rw [staysV, if_pos rfl, exV, if_neg hk2, if_neg hk3, if_neg hk4, if_neg hk5, if_pos hk12]))).2 ?_
                            show Steps p.tables e below (T29.setTop (mkF m 24 #[.val (.int p0), .val (.int k), .val (.ref b12)] [])) _
                            refine XS.iconst X29.here hx rfl (hb hby at_24) ?_
                            show Steps p.tables e below (T29.setTop (mkF m 25 #[.val (.int p0), .val (.int k), .val (.ref b12)] [(.int (1 : Int32))])) _
                            refine XS.goto X29.here hx rfl (pc0 := 25) (pc' := 29) rfl (hb hby at_25) (by decide) (by decide) ?_
                            show Steps p.tables e below (T29.setTop (mkF m 29 #[.val (.int p0), .val (.int k), .val (.ref b12)] [(.int (1 : Int32))])) _
                            exact retN X29 hx (t := .boolean) Bd.returns (by simp) (hb hby at_29) hr
                          · show Q0 h0 n0 _ T29.heap _
                            rw [e29]
                            exact ⟨rfl, N29⟩
set_option maxRecDepth 65536 in
set_option maxHeartbeats 40000000 in
theorem comes_1 {Post : Tables → Env → Array Value → State → Outcome → State → Prop} (hpost : ∀ tb e args s v u, (limb_1_1.after args s (.returned v) u = true ∧ limb_1_2.after args s (.returned v) u = true ∧ True) → FrameEnd s (.returned v) u (Jvm.fieldLocs frame_1_writes args s ++ Jvm.arrayLocs frame_1_arrays args s ++ Jvm.staticLocs frame_1_statics s) 0 0 → Post tb e args s (.returned v) u) :
    ArmFor flags0 classFile x code maxLocals ret World_1 tables_1 room_1 Calls_1 rest_1 Pre_1 Post := by
  intro l hfl _ _ p e ha hc hk s m args below hf hA hF happ hP
  obtain ⟨hcalls, hrest, hpre⟩ := hP
  obtain ⟨-, -, -, hnamed, -, -, -, hat⟩ := (Spec.applies_iff hf).mp happ
  obtain ⟨hg, hn⟩ := and_e (Cond.before_iff.mp (show (Jvm.Cond.and given_1 narrow_1).before args s = true from hpre))
  obtain ⟨hcnt, hg1⟩ := and_e hg
  have ha0 := hg1
  obtain ⟨w0, rfl⟩ : ∃ w0 : Value, args = #[w0] := by
    have hs : args.size = 1 := by simpa [Cond.value, given_1] using hcnt
    obtain ⟨L⟩ := args
    match L, hs with
    | [w0], _ => exact ⟨w0, rfl⟩
  have hw := fun d (hd : d ∈ tables_1) => atoms_spec (ws := Jvm.Cond.code x code maxLocals ret :: tables_1) hat d (List.mem_cons_of_mem _ hd)
  have hfit : Fit s := fun {y c} hc i hi => by
    obtain ⟨ha, rfl⟩ := Array.getElem?_eq_some_iff.mp hc
    have q := List.all_eq_true.mp ((Array.all_eq_true_iff_forall_mem.mp hF) _ (Array.getElem_mem ha)) i (List.mem_range.mpr hi)
    simpa [Array.getElem?_eq_getElem hi] using q
  obtain ⟨i0, ei0⟩ := is_v ha0
  obtain rfl : w0 = (.int i0) := Option.some.inj ei0
  obtain ⟨hn0, hm0⟩ := and_e hn
  obtain ⟨hn1, hm1⟩ := and_e hm0
  obtain ⟨hn2, hm2⟩ := and_e hm1
  obtain ⟨hn3, hm3⟩ := and_e hm2
  obtain ⟨hn4, hm4⟩ := and_e hm3
  obtain ⟨hn5, hm5⟩ := and_e hm4
  obtain ⟨hn6, hm6⟩ := and_e hm5
  obtain ⟨hn7, hm7⟩ := and_e hm6
  obtain ⟨hn8, hm8⟩ := and_e hm7
  obtain ⟨hn9, hm9⟩ := and_e hm8
  obtain ⟨hn10, hm10⟩ := and_e hm9
  obtain ⟨hn11, hm11⟩ := and_e hm10
  obtain ⟨hn12, hm12⟩ := and_e hm11
  obtain ⟨hn13, hm13⟩ := and_e hm12
  obtain ⟨hn14, hm14⟩ := and_e hm13
  obtain ⟨hn15, hm15⟩ := and_e hm14
  obtain ⟨hn16, hm16⟩ := and_e hm15
  obtain ⟨hn17, hm17⟩ := and_e hm16
  obtain ⟨hn18, hm18⟩ := and_e hm17
  obtain ⟨hn19, hm19⟩ := and_e hm18
  obtain ⟨hn20, hm20⟩ := and_e hm19
  obtain ⟨hn21, hm21⟩ := and_e hm20
  obtain ⟨hn22, hm22⟩ := and_e hm21
  obtain ⟨hn23, hm23⟩ := and_e hm22
  obtain ⟨hn24, hn25⟩ := and_e hm23
  obtain ⟨b0, S0, E0, O0⟩ := own_enum hn0 hn2 (hw _ (List.mem_of_getElem? (i := 6) rfl)) (hw _ (List.mem_of_getElem? (i := 7) rfl))
  obtain ⟨b1, S1, E1, O1⟩ := own_enum hn20 hn21 (hw _ (List.mem_of_getElem? (i := 6) rfl)) (hw _ (List.mem_of_getElem? (i := 38) rfl))
  obtain ⟨b2, S2, E2, O2⟩ := own_enum hn10 hn11 (hw _ (List.mem_of_getElem? (i := 6) rfl)) (hw _ (List.mem_of_getElem? (i := 22) rfl))
  obtain ⟨b3, S3, E3, O3⟩ := own_enum hn4 hn5 (hw _ (List.mem_of_getElem? (i := 6) rfl)) (hw _ (List.mem_of_getElem? (i := 16) rfl))
  obtain ⟨b4, S4, E4, O4⟩ := own_enum hn6 hn7 (hw _ (List.mem_of_getElem? (i := 6) rfl)) (hw _ (List.mem_of_getElem? (i := 18) rfl))
  obtain ⟨b5, S5, E5, O5⟩ := own_enum hn8 hn9 (hw _ (List.mem_of_getElem? (i := 6) rfl)) (hw _ (List.mem_of_getElem? (i := 20) rfl))
  obtain ⟨b6, S6, E6, O6⟩ := own_enum hn12 hn13 (hw _ (List.mem_of_getElem? (i := 6) rfl)) (hw _ (List.mem_of_getElem? (i := 28) rfl))
  obtain ⟨b7, S7, E7, O7⟩ := own_enum hn14 hn15 (hw _ (List.mem_of_getElem? (i := 6) rfl)) (hw _ (List.mem_of_getElem? (i := 31) rfl))
  obtain ⟨b8, S8, E8, O8⟩ := own_enum hn22 hn23 (hw _ (List.mem_of_getElem? (i := 6) rfl)) (hw _ (List.mem_of_getElem? (i := 40) rfl))
  obtain ⟨b9, S9, E9, O9⟩ := own_enum hn16 hn17 (hw _ (List.mem_of_getElem? (i := 6) rfl)) (hw _ (List.mem_of_getElem? (i := 33) rfl))
  obtain ⟨b10, S10, E10, O10⟩ := own_enum hn24 hn25 (hw _ (List.mem_of_getElem? (i := 6) rfl)) (hw _ (List.mem_of_getElem? (i := 42) rfl))
  obtain ⟨b11, S11, E11, O11⟩ := own_enum hn18 hn19 (hw _ (List.mem_of_getElem? (i := 6) rfl)) (hw _ (List.mem_of_getElem? (i := 36) rfl))
  obtain ⟨b12, S12, E12, O12⟩ := own_enum hn1 hn3 (hw _ (List.mem_of_getElem? (i := 6) rfl)) (hw _ (List.mem_of_getElem? (i := 14) rfl))
  obtain ⟨n, o, h1, h2, h3, _, L, rfl, ⟨rfl, N⟩, hq⟩ := rm0 l s _ hw tables_1 i0 b0 b1 b2 b3 b4 b5 b6 b7 b8 b9 b10 b11 b12 s.heap s.heap.size (Nat.le_refl _) S0 E0 O0 S1 E1 O1 S2 E2 O2 S3 E3 O3 S4 E4 O4 S5 E5 O5 S6 E6 O6 S7 E7 O7 S8 E8 O8 S9 E9 O9 S10 E10 O10 S11 E11 O11 S12 E12 O12 p e ha hc hk s m _ below hf ((Spec.applies_iff_loose hf).mp happ).1 ⟨rfl, State.Warmed39.refl s, rfl⟩ trivial
  refine ⟨n, _, h1, h2, h3, hpost _ _ _ _ _ _ ⟨Cond.after_iff.mpr rfl, Cond.after_iff.mpr (eq_i res_at (Term.int_eval (1)) rfl), trivial⟩ ⟨hq.1, hq.2.1, (hq.2.2.sift fun y hy => Or.inr (N y hy)).mono (by decide) (by decide)⟩⟩
theorem main_1_1 : Claimed_1_1 := comes_1 fun _ _ _ _ _ _ h hF => ⟨h.1, hF⟩
theorem main_1_2 : Claimed_1_2 := comes_1 fun _ _ _ _ _ _ h hF => ⟨h.2.1, hF⟩
end Jvm.Pilot.@@N@@
namespace Jvm.Pilot.@@N@@
open Jvm Jvm.ClassFile Sem Op Lib Jvm.Free Jvm.Stand Jvm.Pilot.@@N@@.Jvm.D
/-! MADE BY PROGRAM (witnessworld.py) out of the Statement's table words and the real class files: 12 classes; the members and pool entries that the words name. The judged class is class 1, her method 3. -/
namespace start1
open Jvm.ClassFile
def u (s : String) : CpInfo := .utf8 (stringToUtf16 s)
/-- a pool by its gaps: so many unusable entries, then the entry; so many at the end -/
def gap : Nat → List CpInfo → List CpInfo
  | 0, r => r
  | n + 1, r => .unusable :: gap n r
def poolList (es : List (Nat × CpInfo)) (last : Nat) : List CpInfo := es.foldr (fun e r => gap e.1 (e.2 :: r)) (gap last [])
def pool (es : List (Nat × CpInfo)) (last : Nat) : Array CpInfo := ⟨poolList es last⟩
def fileOf (pool : Array CpInfo) (this : Nat) (attrs : Array Attribute := #[]) (ms : Array MethodInfo := #[]) (fl : Nat := 33) (sup : Nat := 0) (ifs : Array Nat := #[]) (fds : Array FieldInfo := #[]) : ClassFile where
  minorVersion := 0
  majorVersion := 65
  constantPool := pool
  accessFlags := fl
  thisClass := this
  superClass := sup
  interfaces := ifs
  fields := fds
  methods := ms
  attributes := attrs
def plain (name : String) (sup : Option ClassId) : Class where
  name := name
  kind := .ordinary
  loader := none
  accessFlags := 33
  super := sup
  interfaces := #[]
  cf := none
  fields := #[]
  methods := #[]
  instanceTypes := #[]
  staticTypes := #[]
  resolved := #[]
  callSites := []
  init := .initialized
  statics := none
  mirror := none

def pool0 : Array CpInfo := pool [(5, u "<init>"), (0, u "()V"), (1, .class_ 10), (1, u "java/lang/Object")] 113

def k0m0 : Method := { name := "<init>", desc := "()V", sig := { parameters := [], returnType := none }, accessFlags := 1, code := none }
/-- java/lang/Object -/
def k0 : Class := { plain "java/lang/Object" none with
  accessFlags := 33
  interfaces := #[]
  cf := some (fileOf pool0 8 #[] #[{ accessFlags := 1, nameIndex := 5, descriptorIndex := 6, attributes := #[] }] 33 0 #[] #[])
  fields := #[]
  methods := #[k0m0]
  instanceTypes := #[]
  staticTypes := #[]
  resolved := Array.replicate 124 none
  statics := none }

def pool1 : Array CpInfo := pool [(2, .class_ 4), (1, u "java/lang/Object"), (0, u "<init>"), (0, u "()V"), (0, .fieldref 8 9), (0, .class_ 10), (0, .nameAndType 11 12), (0, u "com/example/inked_rows/inkedrows/xpath/Axis"), (0, u "ANCESTOR"), (0, u "Lcom/example/inked_rows/inkedrows/xpath/Axis;"), (0, .fieldref 8 14), (0, .nameAndType 15 12), (0, u "ANCESTOR_OR_SELF"), (0, .fieldref 8 17), (0, .nameAndType 18 12), (0, u "ATTRIBUTE"), (0, .fieldref 8 20), (0, .nameAndType 21 12), (0, u "CHILD"), (0, .fieldref 8 23), (0, .nameAndType 24 12), (0, u "DESCENDANT"), (0, .fieldref 8 26), (0, .nameAndType 27 12), (0, u "DESCENDANT_OR_SELF"), (0, .fieldref 8 29), (0, .nameAndType 30 12), (0, u "FOLLOWING"), (0, .fieldref 8 32), (0, .nameAndType 33 12), (0, u "FOLLOWING_SIBLING"), (0, .fieldref 8 35), (0, .nameAndType 36 12), (0, u "NAMESPACE"), (0, .fieldref 8 38), (0, .nameAndType 39 12), (0, u "PARENT"), (0, .fieldref 8 41), (0, .nameAndType 42 12), (0, u "PRECEDING"), (0, .fieldref 8 44), (0, .nameAndType 45 12), (0, u "PRECEDING_SIBLING"), (0, .fieldref 8 47), (0, .nameAndType 48 12), (0, u "SELF"), (0, .integer 2147483647), (0, .methodref 51 52), (0, .class_ 53), (0, .nameAndType 54 55), (0, u "com/example/inked_rows/inkedrows/xpath/AxisStaysInSubtreePinLaw"), (0, u "pick"), (0, u "(I)Lcom/example/inked_rows/inkedrows/xpath/Axis;"), (0, .methodref 8 57), (0, .nameAndType 58 59), (0, u "staysInSubtree"), (0, u "()Z"), (0, .methodref 51 61), (0, .nameAndType 62 63), (0, u "expected"), (0, u "(I)Z"), (3, u "law")] 2

def k1m0 : Method := { name := "<init>", desc := "()V", sig := { parameters := [], returnType := none }, accessFlags := 2, code := none }
def k1c1 : Code := { maxStack := 2, maxLocals := 1, code := method_2_code, exceptionTable := #[], attributes := #[] }
def k1m1 : Method := { name := "pick", desc := "(I)Lcom/example/inked_rows/inkedrows/xpath/Axis;", sig := { parameters := [.int], returnType := some (.object "com/example/inked_rows/inkedrows/xpath/Axis") }, accessFlags := 10, code := some k1c1 }
def k1c2 : Code := { maxStack := 2, maxLocals := 1, code := method_3_code, exceptionTable := #[], attributes := #[] }
def k1m2 : Method := { name := "expected", desc := "(I)Z", sig := { parameters := [.int], returnType := some .boolean }, accessFlags := 10, code := some k1c2 }
def k1c3 : Code := { maxStack := 2, maxLocals := 3, code := code, exceptionTable := #[], attributes := #[] }
def k1m3 : Method := { name := "law", desc := "(I)Z", sig := { parameters := [.int], returnType := some .boolean }, accessFlags := 9, code := some k1c3 }
/-- com/example/inked_rows/inkedrows/xpath/AxisStaysInSubtreePinLaw -/
def k1 : Class := { plain "com/example/inked_rows/inkedrows/xpath/AxisStaysInSubtreePinLaw" (some 0) with
  accessFlags := 49
  interfaces := #[]
  cf := some (fileOf pool1 51 #[] #[{ accessFlags := 2, nameIndex := 5, descriptorIndex := 6, attributes := #[] }, { accessFlags := 10, nameIndex := 54, descriptorIndex := 55, attributes := #[] }, { accessFlags := 10, nameIndex := 62, descriptorIndex := 63, attributes := #[] }, { accessFlags := 9, nameIndex := 67, descriptorIndex := 63, attributes := #[] }] 49 2 #[] #[])
  fields := #[]
  methods := #[k1m0, k1m1, k1m2, k1m3]
  instanceTypes := #[]
  staticTypes := #[]
  resolved := Array.replicate 70 none
  statics := none }

def pool2 : Array CpInfo := pool [(1, .class_ 2), (0, u "java/lang/constant/Constable"), (0, .class_ 4), (0, u "java/lang/Object")] 6

/-- java/lang/constant/Constable -/
def k2 : Class := { plain "java/lang/constant/Constable" (some 0) with
  accessFlags := 1537
  interfaces := #[]
  cf := some (fileOf pool2 1 #[] #[] 1537 3 #[] #[])
  fields := #[]
  methods := #[]
  instanceTypes := #[]
  staticTypes := #[]
  resolved := Array.replicate 11 none
  statics := none }

def pool3 : Array CpInfo := pool [(1, .class_ 2), (0, u "java/lang/Comparable"), (0, .class_ 4), (0, u "java/lang/Object")] 7

/-- java/lang/Comparable -/
def k3 : Class := { plain "java/lang/Comparable" (some 0) with
  accessFlags := 1537
  interfaces := #[]
  cf := some (fileOf pool3 1 #[] #[] 1537 3 #[] #[])
  fields := #[]
  methods := #[]
  instanceTypes := #[]
  staticTypes := #[]
  resolved := Array.replicate 12 none
  statics := none }

def pool4 : Array CpInfo := pool [(1, .class_ 2), (0, u "java/io/Serializable"), (0, .class_ 4), (0, u "java/lang/Object")] 2

/-- java/io/Serializable -/
def k4 : Class := { plain "java/io/Serializable" (some 0) with
  accessFlags := 1537
  interfaces := #[]
  cf := some (fileOf pool4 1 #[] #[] 1537 3 #[] #[])
  fields := #[]
  methods := #[]
  instanceTypes := #[]
  staticTypes := #[]
  resolved := Array.replicate 7 none
  statics := none }

def pool5 : Array CpInfo := pool [(2, .class_ 4), (1, u "java/lang/Enum"), (0, u "name"), (0, u "Ljava/lang/String;"), (2, u "ordinal"), (0, u "I"), (1, .class_ 14), (1, u "java/lang/Object"), (4, u "hash"), (86, .class_ 108), (1, u "java/lang/Enum$EnumDesc"), (2, .class_ 112), (0, u "java/lang/constant/Constable"), (0, .class_ 114), (0, u "java/lang/Comparable"), (0, .class_ 116), (0, u "java/io/Serializable")] 87

/-- java/lang/Enum -/
def k5 : Class := { plain "java/lang/Enum" (some 0) with
  accessFlags := 1057
  interfaces := #[2, 3, 4]
  cf := some (fileOf pool5 2 #[.nestMembers #[106]] #[] 1057 12 #[111, 113, 115] #[{ accessFlags := 18, nameIndex := 5, descriptorIndex := 6, attributes := #[] }, { accessFlags := 18, nameIndex := 9, descriptorIndex := 10, attributes := #[] }, { accessFlags := 2, nameIndex := 19, descriptorIndex := 10, attributes := #[] }])
  fields := #[{ name := "name", type := (.object "java/lang/String"), accessFlags := 18, slot := 0, constantValue := 0 }, { name := "ordinal", type := .int, accessFlags := 18, slot := 1, constantValue := 0 }, { name := "hash", type := .int, accessFlags := 2, slot := 2, constantValue := 0 }]
  methods := #[]
  instanceTypes := #[(.object "java/lang/String"), .int, .int]
  staticTypes := #[]
  resolved := Array.replicate 204 none
  statics := none }

def pool6 : Array CpInfo := pool [(1, .class_ 2), (0, u "com/example/inked_rows/inkedrows/xpath/Axis"), (2, u "ANCESTOR"), (0, u "Lcom/example/inked_rows/inkedrows/xpath/Axis;"), (2, u "ANCESTOR_OR_SELF"), (0, .fieldref 1 11), (0, .nameAndType 12 6), (0, u "ATTRIBUTE"), (0, .fieldref 1 14), (0, .nameAndType 15 6), (0, u "CHILD"), (0, .fieldref 1 17), (0, .nameAndType 18 6), (0, u "DESCENDANT"), (0, .fieldref 1 20), (0, .nameAndType 21 6), (0, u "DESCENDANT_OR_SELF"), (2, u "FOLLOWING"), (2, u "FOLLOWING_SIBLING"), (2, u "NAMESPACE"), (2, u "PARENT"), (2, u "PRECEDING"), (2, u "PRECEDING_SIBLING"), (0, .fieldref 1 41), (0, .nameAndType 42 6), (0, u "SELF"), (2, u "$VALUES"), (0, u "[Lcom/example/inked_rows/inkedrows/xpath/Axis;"), (6, .class_ 55), (1, u "java/lang/Enum"), (8, u "xpathName"), (0, u "Ljava/lang/String;"), (43, u "()Z"), (164, u "staysInSubtree")] 44

def k6c0 : Code := { maxStack := 2, maxLocals := 1, code := prog_185_method_6_code, exceptionTable := #[], attributes := #[] }
def k6m0 : Method := { name := "staysInSubtree", desc := "()Z", sig := { parameters := [], returnType := some .boolean }, accessFlags := 0, code := some k6c0 }
/-- com/example/inked_rows/inkedrows/xpath/Axis -/
def k6 : Class := { plain "com/example/inked_rows/inkedrows/xpath/Axis" (some 5) with
  accessFlags := 16432
  interfaces := #[]
  cf := some (fileOf pool6 1 #[] #[{ accessFlags := 0, nameIndex := 274, descriptorIndex := 109, attributes := #[] }] 16432 53 #[] #[{ accessFlags := 16409, nameIndex := 5, descriptorIndex := 6, attributes := #[] }, { accessFlags := 16409, nameIndex := 9, descriptorIndex := 6, attributes := #[] }, { accessFlags := 16409, nameIndex := 12, descriptorIndex := 6, attributes := #[] }, { accessFlags := 16409, nameIndex := 15, descriptorIndex := 6, attributes := #[] }, { accessFlags := 16409, nameIndex := 18, descriptorIndex := 6, attributes := #[] }, { accessFlags := 16409, nameIndex := 21, descriptorIndex := 6, attributes := #[] }, { accessFlags := 16409, nameIndex := 24, descriptorIndex := 6, attributes := #[] }, { accessFlags := 16409, nameIndex := 27, descriptorIndex := 6, attributes := #[] }, { accessFlags := 16409, nameIndex := 30, descriptorIndex := 6, attributes := #[] }, { accessFlags := 16409, nameIndex := 33, descriptorIndex := 6, attributes := #[] }, { accessFlags := 16409, nameIndex := 36, descriptorIndex := 6, attributes := #[] }, { accessFlags := 16409, nameIndex := 39, descriptorIndex := 6, attributes := #[] }, { accessFlags := 16409, nameIndex := 42, descriptorIndex := 6, attributes := #[] }, { accessFlags := 18, nameIndex := 64, descriptorIndex := 65, attributes := #[] }, { accessFlags := 4122, nameIndex := 45, descriptorIndex := 46, attributes := #[] }])
  fields := #[{ name := "ANCESTOR", type := (.object "com/example/inked_rows/inkedrows/xpath/Axis"), accessFlags := 16409, slot := 0, constantValue := 0 }, { name := "ANCESTOR_OR_SELF", type := (.object "com/example/inked_rows/inkedrows/xpath/Axis"), accessFlags := 16409, slot := 1, constantValue := 0 }, { name := "ATTRIBUTE", type := (.object "com/example/inked_rows/inkedrows/xpath/Axis"), accessFlags := 16409, slot := 2, constantValue := 0 }, { name := "CHILD", type := (.object "com/example/inked_rows/inkedrows/xpath/Axis"), accessFlags := 16409, slot := 3, constantValue := 0 }, { name := "DESCENDANT", type := (.object "com/example/inked_rows/inkedrows/xpath/Axis"), accessFlags := 16409, slot := 4, constantValue := 0 }, { name := "DESCENDANT_OR_SELF", type := (.object "com/example/inked_rows/inkedrows/xpath/Axis"), accessFlags := 16409, slot := 5, constantValue := 0 }, { name := "FOLLOWING", type := (.object "com/example/inked_rows/inkedrows/xpath/Axis"), accessFlags := 16409, slot := 6, constantValue := 0 }, { name := "FOLLOWING_SIBLING", type := (.object "com/example/inked_rows/inkedrows/xpath/Axis"), accessFlags := 16409, slot := 7, constantValue := 0 }, { name := "NAMESPACE", type := (.object "com/example/inked_rows/inkedrows/xpath/Axis"), accessFlags := 16409, slot := 8, constantValue := 0 }, { name := "PARENT", type := (.object "com/example/inked_rows/inkedrows/xpath/Axis"), accessFlags := 16409, slot := 9, constantValue := 0 }, { name := "PRECEDING", type := (.object "com/example/inked_rows/inkedrows/xpath/Axis"), accessFlags := 16409, slot := 10, constantValue := 0 }, { name := "PRECEDING_SIBLING", type := (.object "com/example/inked_rows/inkedrows/xpath/Axis"), accessFlags := 16409, slot := 11, constantValue := 0 }, { name := "SELF", type := (.object "com/example/inked_rows/inkedrows/xpath/Axis"), accessFlags := 16409, slot := 12, constantValue := 0 }, { name := "xpathName", type := (.object "java/lang/String"), accessFlags := 18, slot := 3, constantValue := 0 }, { name := "$VALUES", type := (.array (.object "com/example/inked_rows/inkedrows/xpath/Axis")), accessFlags := 4122, slot := 13, constantValue := 0 }]
  methods := #[k6m0]
  instanceTypes := #[(.object "java/lang/String"), .int, .int, (.object "java/lang/String")]
  staticTypes := #[(.object "com/example/inked_rows/inkedrows/xpath/Axis"), (.object "com/example/inked_rows/inkedrows/xpath/Axis"), (.object "com/example/inked_rows/inkedrows/xpath/Axis"), (.object "com/example/inked_rows/inkedrows/xpath/Axis"), (.object "com/example/inked_rows/inkedrows/xpath/Axis"), (.object "com/example/inked_rows/inkedrows/xpath/Axis"), (.object "com/example/inked_rows/inkedrows/xpath/Axis"), (.object "com/example/inked_rows/inkedrows/xpath/Axis"), (.object "com/example/inked_rows/inkedrows/xpath/Axis"), (.object "com/example/inked_rows/inkedrows/xpath/Axis"), (.object "com/example/inked_rows/inkedrows/xpath/Axis"), (.object "com/example/inked_rows/inkedrows/xpath/Axis"), (.object "com/example/inked_rows/inkedrows/xpath/Axis"), (.array (.object "com/example/inked_rows/inkedrows/xpath/Axis"))]
  resolved := Array.replicate 319 none
  statics := some 0 }

def pool7 : Array CpInfo := pool [(1, u "java/lang/Cloneable"), (0, .class_ 1), (0, u "java/lang/Object"), (0, .class_ 3)] 3

/-- java/lang/Cloneable -/
def k7 : Class := { plain "java/lang/Cloneable" (some 0) with
  accessFlags := 1537
  interfaces := #[]
  cf := some (fileOf pool7 2 #[] #[] 1537 4 #[] #[])
  fields := #[]
  methods := #[]
  instanceTypes := #[]
  staticTypes := #[]
  resolved := Array.replicate 8 none
  statics := none }

/-- the primitive byte -/
def k8 : Class := { plain "byte" none with kind := .primitive 'B', accessFlags := 0x411 }
/-- [B -/
def k9 : Class := { plain "[B" (some 0) with kind := .array 8 .byte, interfaces := #[7, 4], accessFlags := 1041 }

/-- the primitive int -/
def k10 : Class := { plain "int" none with kind := .primitive 'I', accessFlags := 0x411 }
/-- [I -/
def k11 : Class := { plain "[I" (some 0) with kind := .array 10 .int, interfaces := #[7, 4], accessFlags := 1041 }

def heap : Heap := #[{ cls := 6, slots := #[.ref 1, .ref 2, .ref 3, .ref 4, .ref 5, .ref 6, .ref 7, .ref 8, .ref 9, .ref 10, .ref 11, .ref 12, .ref 13, .null], vm := .statics 6 },
  { cls := 6, slots := #[.null, .int 0, .int 0, .null], vm := .none },
  { cls := 6, slots := #[.null, .int 1, .int 0, .null], vm := .none },
  { cls := 6, slots := #[.null, .int 2, .int 0, .null], vm := .none },
  { cls := 6, slots := #[.null, .int 3, .int 0, .null], vm := .none },
  { cls := 6, slots := #[.null, .int 4, .int 0, .null], vm := .none },
  { cls := 6, slots := #[.null, .int 5, .int 0, .null], vm := .none },
  { cls := 6, slots := #[.null, .int 6, .int 0, .null], vm := .none },
  { cls := 6, slots := #[.null, .int 7, .int 0, .null], vm := .none },
  { cls := 6, slots := #[.null, .int 8, .int 0, .null], vm := .none },
  { cls := 6, slots := #[.null, .int 9, .int 0, .null], vm := .none },
  { cls := 6, slots := #[.null, .int 10, .int 0, .null], vm := .none },
  { cls := 6, slots := #[.null, .int 11, .int 0, .null], vm := .none },
  { cls := 6, slots := #[.null, .int 12, .int 0, .null], vm := .none }]
def classes : Array Class := #[k0, k1, k2, k3, k4, k5, k6, k7, k8, k9, k10, k11]
def interned : List (Array UInt16 × Addr) := []
def slotsUsed : Nat := 66
def theMethod : MethodId := ⟨1, 3⟩
def args0 : Array Value := #[.int 5]
def aboutOver (below : List Frame) : State where
  vm := { classes := classes, interned := interned.toArray }
  heap := heap
  slotsUsed := slotsUsed
  threads := #[{ frames := .invoking theMethod args0 :: below }]
def below0 : List Frame := [.native { method := ⟨0, 0⟩, args := #[] }]
def about1 : State := aboutOver below0
def p0 : Program := .bare "" "" ""
def e0 : Env := launch0.env 0 0 0
theorem w_frames : about1.frames = Frame.invoking theMethod args0 :: below0 := rfl
set_option maxRecDepth 65536 in
theorem w_args : argsFit about1.vm theMethod args0 = true := by decide +kernel
set_option maxRecDepth 65536 in
theorem w_heap : heapFits about1 = true := by decide +kernel
set_option maxRecDepth 65536 in
theorem w_runnable : about1.curStatus? = some .runnable := by decide +kernel
set_option maxRecDepth 65536 in
theorem w_alone : about1.alone = true := by decide +kernel
set_option maxRecDepth 65536 in
theorem w_named : about1.methodNamed? x = some theMethod := by decide +kernel
set_option maxRecDepth 65536 in
theorem w_hears : about1.hears theMethod below0 = true := by decide +kernel
set_option maxRecDepth 65536 in
theorem w_ripe : about1.ripe theMethod args0 below0 = true := by decide +kernel
theorem w_running : about1.status = .running := rfl
set_option maxRecDepth 65536 in
theorem w_room : about1.hasRoom e0.platform room_1 = true :=
  launch0.hasRoom_least _ room_1 (by decide +kernel) (by decide +kernel) (by decide +kernel) (by decide +kernel) (by decide +kernel) (by decide +kernel)
theorem allAtoms_all (ts : List Jvm.Cond) (a : Array Jvm.Value) (st : Jvm.State) : (allAtoms ts).before a st = ts.all (fun c => c.before a st) := by
  induction ts with
  | nil => rfl
  | cons c t ih =>
    show (Jvm.Cond.and c (allAtoms t)).before a st = _
    rw [Jvm.Cond.before_and, ih, List.all_cons]
def words1 : List Jvm.Cond := Jvm.Cond.code x code maxLocals ret :: tables_1
/-- a 'code' word, met by the world's own term for the bytes: nothing is compared byte by byte -/
theorem code_word {y : MethodName} {bytes : ByteArray} {mx : Nat} {rt : Option FieldType} {a : Array Value} {s : State} {m : MethodId} {meth : Method} {c : Code} (h1 : s.methodNamed? y = some m) (h2 : s.vm.method? m = some meth) (h3 : meth.code = some c) (h4 : c.code = bytes)
    (h5 : (c.maxLocals == mx && c.exceptionTable.isEmpty && decide (c.maxStack ≤ mostOperands) && decide (meth.sig.returnType = rt) && !meth.locks && decide (parseMethodDescriptor y.desc = some meth.sig)) = true) : (Jvm.Cond.code y bytes mx rt).before a s = true := by
  simp only [Bool.and_eq_true, beq_iff_eq, Bool.not_eq_true', decide_eq_true_eq] at h5
  obtain ⟨⟨⟨⟨⟨g1, g2⟩, g3⟩, g4⟩, g5⟩, g6⟩ := h5
  simp [Cond.before, Cond.holds, Cond.value, h1, h2, h3, h4, g1, g2, g3, g4, g5, g6]
def isCode : Jvm.Cond → Bool
  | .code _ _ _ _ => true
  | _ => false
theorem all_split {L : List Jvm.Cond} {P : Jvm.Cond → Bool} (h1 : L.all (fun c => isCode c || P c) = true) (h2 : ∀ c ∈ L.filter isCode, P c = true) : L.all P = true := by
  refine List.all_eq_true.mpr fun c hc => ?_
  have h := List.all_eq_true.mp h1 c hc
  rcases Bool.eq_false_or_eq_true (isCode c) with hi | hi
  · exact h2 c (List.mem_filter.mpr ⟨hc, hi⟩)
  · simpa [hi] using h
set_option maxRecDepth 65536 in
theorem w_c0 : (Jvm.Cond.code x code maxLocals ret).before args0 about1 = true := code_word (m := ⟨1, 3⟩) (meth := k1m3) (c := k1c3) (by decide +kernel) rfl rfl rfl (by decide +kernel)
set_option maxRecDepth 65536 in
theorem w_c1 : (Jvm.Cond.code ({ cls := "com/example/inked_rows/inkedrows/xpath/AxisStaysInSubtreePinLaw", name := "pick", desc := "(I)Lcom/example/inked_rows/inkedrows/xpath/Axis;" } : Jvm.MethodName) method_2_code (1 : Nat) (Option.some (Jvm.ClassFile.FieldType.object "com/example/inked_rows/inkedrows/xpath/Axis"))).before args0 about1 = true := code_word (m := ⟨1, 1⟩) (meth := k1m1) (c := k1c1) (by decide +kernel) rfl rfl rfl (by decide +kernel)
set_option maxRecDepth 65536 in
theorem w_c2 : (Jvm.Cond.code ({ cls := "com/example/inked_rows/inkedrows/xpath/Axis", name := "staysInSubtree", desc := "()Z" } : Jvm.MethodName) prog_185_method_6_code (1 : Nat) (Option.some Jvm.ClassFile.FieldType.boolean)).before args0 about1 = true := code_word (m := ⟨6, 0⟩) (meth := k6m0) (c := k6c0) (by decide +kernel) rfl rfl rfl (by decide +kernel)
set_option maxRecDepth 65536 in
theorem w_c3 : (Jvm.Cond.code ({ cls := "com/example/inked_rows/inkedrows/xpath/AxisStaysInSubtreePinLaw", name := "expected", desc := "(I)Z" } : Jvm.MethodName) method_3_code (1 : Nat) (Option.some Jvm.ClassFile.FieldType.boolean)).before args0 about1 = true := code_word (m := ⟨1, 2⟩) (meth := k1m2) (c := k1c2) (by decide +kernel) rfl rfl rfl (by decide +kernel)
def codes1 : List Jvm.Cond := [Jvm.Cond.code x code maxLocals ret, Jvm.Cond.code ({ cls := "com/example/inked_rows/inkedrows/xpath/AxisStaysInSubtreePinLaw", name := "pick", desc := "(I)Lcom/example/inked_rows/inkedrows/xpath/Axis;" } : Jvm.MethodName) method_2_code (1 : Nat) (Option.some (Jvm.ClassFile.FieldType.object "com/example/inked_rows/inkedrows/xpath/Axis")), Jvm.Cond.code ({ cls := "com/example/inked_rows/inkedrows/xpath/Axis", name := "staysInSubtree", desc := "()Z" } : Jvm.MethodName) prog_185_method_6_code (1 : Nat) (Option.some Jvm.ClassFile.FieldType.boolean), Jvm.Cond.code ({ cls := "com/example/inked_rows/inkedrows/xpath/AxisStaysInSubtreePinLaw", name := "expected", desc := "(I)Z" } : Jvm.MethodName) method_3_code (1 : Nat) (Option.some Jvm.ClassFile.FieldType.boolean)]
set_option maxRecDepth 65536 in
theorem codes_eq : words1.filter isCode = codes1 := rfl
theorem w_codes : ∀ c ∈ words1.filter isCode, c.before args0 about1 = true := by
  rw [codes_eq]
  intro c hc
  simp only [codes1, List.mem_cons, List.not_mem_nil, or_false] at hc
  rcases hc with rfl | rfl | rfl | rfl
  · exact w_c0
  · exact w_c1
  · exact w_c2
  · exact w_c3
set_option maxRecDepth 65536 in
theorem w_t1 : (words1.take 24).all (fun c => isCode c || c.before args0 about1) = true := by decide +kernel
set_option maxRecDepth 65536 in
theorem w_t2 : (words1.drop 24).all (fun c => isCode c || c.before args0 about1) = true := by decide +kernel
theorem w_tables : (allAtoms (Jvm.Cond.code x code maxLocals ret :: tables_1)).before args0 about1 = true := by
  rw [allAtoms_all]
  show words1.all (fun c => c.before args0 about1) = true
  refine all_split ?_ w_codes
  rw [← List.take_append_drop 24 words1, List.all_append, w_t1, w_t2]
  rfl
set_option maxRecDepth 65536 in
theorem w_case : (Jvm.Cond.and given_1 narrow_1).before args0 about1 = true := by decide +kernel
theorem w_applies : (headSpec (Jvm.Cond.code x code maxLocals ret :: tables_1) room_1).applies x e0.platform about1 = true :=
  (Spec.applies_iff w_frames).mpr ⟨w_running, w_runnable, w_alone, w_named, w_hears, w_ripe, w_room, w_tables⟩
theorem atStart : AtStart classFile x code maxLocals ret World_1 tables_1 room_1 Calls_1 rest_1 Pre_1 launch0 p0 e0 about1 theMethod args0 below0 :=
  ⟨lists_1, trivial, launch0.admits_env _ _ _, launch0.least_env, fairChoices_fair.cas, fairChoices_fair.clock, w_frames, w_args, w_heap, w_applies, trivial, trivial, w_case⟩
end start1
theorem witness_1 : WitnessClaimed_1 := ⟨start1.p0, start1.e0, start1.about1, start1.theMethod, start1.args0, start1.below0, start1.atStart⟩
end Jvm.Pilot.@@N@@
