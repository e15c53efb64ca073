import JvmDerived
import JvmDerived.Pilot.@@N@@Statement
import JvmDerived.Pilot.@@N@@Code
set_option linter.unusedVariables false
set_option linter.unusedSimpArgs false
namespace Jvm.RoadKit
open Sem ClassFile Op Lib Jvm.Stand Jvm.Free Jvm.LawKit
section New
variable {p : Program} {l : Launch} {e : Env} {R : Room} {s : State} {m : MethodId} {args : Array Value} {below : List Frame} {meth : Method} {c : Code} {T : State} {locs : List Loc} {cells slots : Nat}
theorem retI (X : Stand p l e R s m args below meth c T locs cells slots) (hx : p.tables.exec = Jvm.exec) {pc : Nat} {Ls : Array Slot} {z : Int32} {rest : List Value} (hret : meth.sig.returnType = some .int) (hd : decode c.code pc = .ok (.ireturn, 1)) {fs : List Frame}
    (hl : ∀ (f : JFrame) (acts : List Action), f.method = m → f.locked = none → f.entered = [] → (doReturn e (T.setTop f) acts (some (.int z))).1 = T.setFrames fs) : Steps p.tables e below (T.setTop (mkF m pc Ls (.int z :: rest))) (T.setFrames fs) := by
  have hm' : T.vm.method? m = some meth := X.method'
  have hn : narrow .int (.int z) = .int z := rfl
  show Steps p.tables e below (T.setTop { method := m, pc := pc, locals := Ls, stack := _ :: rest, locked := none }) _
  jvm_step X.here [X.here.top, hx, hd, hm', hret, hn]
  first | (intro acts; rw [hl _ acts rfl rfl rfl]) | rw [hl _ _ rfl rfl rfl]
  exact Steps.refl _
end New
end Jvm.RoadKit
namespace Jvm.Pilot.@@N@@
open Jvm Jvm.ClassFile Sem Op Lib Jvm.Free Jvm.Stand Jvm.LawKit Jvm.RoadKit Bundle Jvm.Pilot.@@N@@.Jvm.D
theorem own_side0 {h0 : Heap} {ws : List Addr} : ∀ x ∈ ([] : List Addr), x ∈ ws ∨ h0.size ≤ x := fun _ q => nomatch q
theorem own_side1 {h0 : Heap} {ws : List Addr} {a : Addr} (h : a ∈ ws ∨ h0.size ≤ a) : ∀ x ∈ [a], x ∈ ws ∨ h0.size ≤ x := fun x q => by
  cases List.mem_singleton.mp q; exact h
theorem own_side2 {h0 : Heap} {ws : List Addr} {a b : Addr} (h : a ∈ ws ∨ h0.size ≤ a) (h' : b ∈ ws ∨ h0.size ≤ b) : ∀ x ∈ [a, b], x ∈ ws ∨ h0.size ≤ x := fun x q => by
  rcases List.mem_cons.mp q with rfl | q
  · exact h
  · exact own_side1 h' x q
theorem own_side3 {h0 : Heap} {ws : List Addr} {a b d : Addr} (h : a ∈ ws ∨ h0.size ≤ a) (h' : b ∈ ws ∨ h0.size ≤ b) (h'' : d ∈ ws ∨ h0.size ≤ d) : ∀ x ∈ [a, b, d], x ∈ ws ∨ h0.size ≤ x := fun x q => by
  rcases List.mem_cons.mp q with rfl | q
  · exact h
  · exact own_side2 h' h'' x q
theorem own_notin1 {x a : Addr} (h : x ≠ a) : x ∉ [a] := fun q => h (List.mem_singleton.mp q)
theorem own_notin2 {x a b : Addr} (h : x ≠ a) (h' : x ≠ b) : x ∉ [a, b] := fun q => by
  rcases List.mem_cons.mp q with q | q
  · exact h q
  · exact own_notin1 h' q
theorem own_notin3 {x a b d : Addr} (h : x ≠ a) (h' : x ≠ b) (h'' : x ≠ d) : x ∉ [a, b, d] := fun q => by
  rcases List.mem_cons.mp q with q | q
  · exact h q
  · exact own_notin2 h' h'' q
theorem own_rem (x y : Int32) (hx : 0 ≤ x.toInt) (hy : 0 < y.toInt) : (x - (x / y) * y).toInt = x.toInt % y.toInt := by
  have hx2 := x.toInt_lt
  have hy2 := y.toInt_lt
  have hd : (x / y).toInt = x.toInt / y.toInt := by
    rw [Int32.toInt_div, Int.tdiv_eq_ediv_of_nonneg hx]
    have h1 : 0 ≤ x.toInt / y.toInt := Int.ediv_nonneg hx (Int.le_of_lt hy)
    have h2 : x.toInt / y.toInt ≤ x.toInt := Int.ediv_le_self _ hx
    exact Int.bmod_eq_of_le (by omega) (by omega)
  have hm : ((x / y) * y).toInt = (x.toInt / y.toInt) * y.toInt := by
    rw [Int32.toInt_mul, hd]
    have h1 : 0 ≤ x.toInt / y.toInt * y.toInt := Int.mul_nonneg (Int.ediv_nonneg hx (Int.le_of_lt hy)) (Int.le_of_lt hy)
    have h2 := Int.ediv_mul_le x.toInt (Int.ne_of_gt hy)
    exact Int.bmod_eq_of_le (by omega) (by omega)
  have h3 := Int.emod_add_mul_ediv x.toInt y.toInt
  have h4 := Int.emod_nonneg x.toInt (Int.ne_of_gt hy)
  have h5 := Int.emod_lt_of_pos x.toInt hy
  rw [Int32.toInt_sub, hm]
  have h6 : x.toInt - x.toInt / y.toInt * y.toInt = x.toInt % y.toInt := by rw [Int.mul_comm (x.toInt / y.toInt)]; omega
  rw [h6]
  exact Int.bmod_eq_of_le (by omega) (by omega)
theorem own_and31 (p : Int32) : 0 ≤ (p &&& (2147483647 : Int32)).toInt := by
  have h : (p &&& (2147483647 : Int32)).toBitVec.toNat ≤ 2147483647 := by
    simp only [Int32.toBitVec_and, BitVec.toNat_and]
    exact Nat.and_le_right
  have e : (p &&& (2147483647 : Int32)).toInt = ((p &&& (2147483647 : Int32)).toBitVec.toNat : Int) := BitVec.toInt_eq_toNat_of_lt (by omega)
  omega
def edgesL : List Value := [(.int (-2147483648 : Int32)), (.int (0 : Int32)), (.int (9 : Int32)), (.int (10 : Int32)), (.int (13 : Int32)), (.int (32 : Int32)), (.int (55295 : Int32)), (.int (55296 : Int32)), (.int (57343 : Int32)), (.int (57344 : Int32)), (.int (65533 : Int32)), (.int (65534 : Int32)), (.int (65535 : Int32)), (.int (65536 : Int32)), (.int (1114111 : Int32)), (.int (1114112 : Int32)), (.int (2147483647 : Int32))]
def edgeAt (j : Int32) : Int32 := match edgesL.getD j.toNatClampNeg (.int (0 : Int32)) with
  | .int w => w
  | _ => 0
theorem own_edge (j : Int32) : edgesL.getD j.toNatClampNeg (.int (0 : Int32)) = .int (edgeAt j) := by
  unfold edgeAt
  generalize j.toNatClampNeg = k
  match k with
  | 0 => rfl
  | 1 => rfl
  | 2 => rfl
  | 3 => rfl
  | 4 => rfl
  | 5 => rfl
  | 6 => rfl
  | 7 => rfl
  | 8 => rfl
  | 9 => rfl
  | 10 => rfl
  | 11 => rfl
  | 12 => rfl
  | 13 => rfl
  | 14 => rfl
  | 15 => rfl
  | 16 => rfl
  | n + 17 => rfl
theorem own_toNat_lt (x : Int32) (h : 0 ≤ x.toInt) : x.toNatClampNeg = x.toInt.toNat := rfl
theorem own_ushr1 (s : Int32) : 0 ≤ ((s.toUInt32 >>> ((1 : Int32) &&& 31).toUInt32).toInt32).toInt := by
  have h : ((s.toUInt32 >>> ((1 : Int32) &&& 31).toUInt32).toInt32).toBitVec.toNat = s.toBitVec.toNat / 2 := by
    show (s.toBitVec >>> (1 % 32)).toNat = _
    rw [BitVec.toNat_ushiftRight, Nat.shiftRight_eq_div_pow]
  have h2 : s.toBitVec.toNat < 2 ^ 32 := s.toBitVec.isLt
  show 0 ≤ ((s.toUInt32 >>> ((1 : Int32) &&& 31).toUInt32).toInt32).toBitVec.toInt
  rw [BitVec.toInt_eq_toNat_of_lt (by rw [h]; omega)]
  omega
theorem own_in17 (s : Int32) : ¬ (((s.toUInt32 >>> ((1 : Int32) &&& 31).toUInt32).toInt32) - (((s.toUInt32 >>> ((1 : Int32) &&& 31).toUInt32).toInt32) / (17 : Int32)) * (17 : Int32)) < 0 ∧ (((s.toUInt32 >>> ((1 : Int32) &&& 31).toUInt32).toInt32) - (((s.toUInt32 >>> ((1 : Int32) &&& 31).toUInt32).toInt32) / (17 : Int32)) * (17 : Int32)) < (17 : Int32) := by
  have h := own_rem ((s.toUInt32 >>> ((1 : Int32) &&& 31).toUInt32).toInt32) 17 (own_ushr1 s) (by decide)
  have h17 : (17 : Int32).toInt = 17 := rfl
  have h0 : (0 : Int32).toInt = 0 := rfl
  rw [Int32.lt_iff_toInt_lt, Int32.lt_iff_toInt_lt, h, h17, h0]
  omega
def pickV (p0 p1 p2 : Int32) : Int32 := if (p1 &&& (1 : Int32)) = (0 : Int32) then p0 else ((edgeAt (((p1.toUInt32 >>> ((1 : Int32) &&& 31).toUInt32).toInt32) - (((p1.toUInt32 >>> ((1 : Int32) &&& 31).toUInt32).toInt32) / (17 : Int32)) * (17 : Int32))) + (((p2 &&& (2147483647 : Int32)) - ((p2 &&& (2147483647 : Int32)) / (3 : Int32)) * (3 : Int32)) - (1 : Int32)))
def isV (c : Int32) : Int32 := if (c = (9 : Int32) ∨ c = (10 : Int32) ∨ c = (13 : Int32) ∨ (¬ (c < (32 : Int32)) ∧ ¬ ((55295 : Int32) < c)) ∨ (¬ (c < (57344 : Int32)) ∧ ¬ ((65533 : Int32) < c)) ∨ (¬ (c < (65536 : Int32)) ∧ ¬ ((1114111 : Int32) < c))) then 1 else 0
def exV (c : Int32) : Int32 := if (c < (0 : Int32) ∨ (1114111 : Int32) < c ∨ (c < (32 : Int32) ∧ ¬ (c = (9 : Int32)) ∧ ¬ (c = (10 : Int32)) ∧ ¬ (c = (13 : Int32))) ∨ (¬ (c < (55296 : Int32)) ∧ ¬ ((57343 : Int32) < c)) ∨ c = (65534 : Int32) ∨ c = (65535 : Int32)) then 0 else 1
theorem own_same (c : Int32) : isV c = exV c := by
  unfold isV exV
  simp only [Int32.lt_iff_toInt_lt, ← Int32.toInt_inj, show (9 : Int32).toInt = 9 from rfl, show (10 : Int32).toInt = 10 from rfl, show (13 : Int32).toInt = 13 from rfl, show (32 : Int32).toInt = 32 from rfl, show (55295 : Int32).toInt = 55295 from rfl, show (57344 : Int32).toInt = 57344 from rfl, show (65533 : Int32).toInt = 65533 from rfl, show (65536 : Int32).toInt = 65536 from rfl, show (1114111 : Int32).toInt = 1114111 from rfl, show (0 : Int32).toInt = 0 from rfl, show (55296 : Int32).toInt = 55296 from rfl, show (57343 : Int32).toInt = 57343 from rfl, show (65534 : Int32).toInt = 65534 from rfl, show (65535 : Int32).toInt = 65535 from rfl, show (1 : Int32).toInt = 1 from rfl]
  split <;> split <;> first | rfl | (exfalso; omega)
theorem d1_0 : decode method_2_code 0 = .ok (.iload_n 1, 1) := by decide +kernel
theorem d1_1 : decode method_2_code 1 = .ok (.iconst 1, 1) := by decide +kernel
theorem d1_2 : decode method_2_code 2 = .ok (.iand, 1) := by decide +kernel
theorem d1_3 : decode method_2_code 3 = .ok (.ifCond .ne 5, 3) := by decide +kernel
theorem d1_6 : decode method_2_code 6 = .ok (.iload_n 0, 1) := by decide +kernel
theorem d1_7 : decode method_2_code 7 = .ok (.ireturn, 1) := by decide +kernel
theorem d1_8 : decode method_2_code 8 = .ok (.bipush 17, 2) := by decide +kernel
theorem d1_10 : decode method_2_code 10 = .ok (.newarray .int, 2) := by decide +kernel
theorem d1_12 : decode method_2_code 12 = .ok (.dup, 1) := by decide +kernel
theorem d1_13 : decode method_2_code 13 = .ok (.iconst 0, 1) := by decide +kernel
theorem d1_14 : decode method_2_code 14 = .ok (.ldc 9, 2) := by decide +kernel
theorem d1_16 : decode method_2_code 16 = .ok (.iastore, 1) := by decide +kernel
theorem d1_17 : decode method_2_code 17 = .ok (.dup, 1) := by decide +kernel
theorem d1_18 : decode method_2_code 18 = .ok (.iconst 1, 1) := by decide +kernel
theorem d1_19 : decode method_2_code 19 = .ok (.iconst 0, 1) := by decide +kernel
theorem d1_20 : decode method_2_code 20 = .ok (.iastore, 1) := by decide +kernel
theorem d1_21 : decode method_2_code 21 = .ok (.dup, 1) := by decide +kernel
theorem d1_22 : decode method_2_code 22 = .ok (.iconst 2, 1) := by decide +kernel
theorem d1_23 : decode method_2_code 23 = .ok (.bipush 9, 2) := by decide +kernel
theorem d1_25 : decode method_2_code 25 = .ok (.iastore, 1) := by decide +kernel
theorem d1_26 : decode method_2_code 26 = .ok (.dup, 1) := by decide +kernel
theorem d1_27 : decode method_2_code 27 = .ok (.iconst 3, 1) := by decide +kernel
theorem d1_28 : decode method_2_code 28 = .ok (.bipush 10, 2) := by decide +kernel
theorem d1_30 : decode method_2_code 30 = .ok (.iastore, 1) := by decide +kernel
theorem d1_31 : decode method_2_code 31 = .ok (.dup, 1) := by decide +kernel
theorem d1_32 : decode method_2_code 32 = .ok (.iconst 4, 1) := by decide +kernel
theorem d1_33 : decode method_2_code 33 = .ok (.bipush 13, 2) := by decide +kernel
theorem d1_35 : decode method_2_code 35 = .ok (.iastore, 1) := by decide +kernel
theorem d1_36 : decode method_2_code 36 = .ok (.dup, 1) := by decide +kernel
theorem d1_37 : decode method_2_code 37 = .ok (.iconst 5, 1) := by decide +kernel
theorem d1_38 : decode method_2_code 38 = .ok (.bipush 32, 2) := by decide +kernel
theorem d1_40 : decode method_2_code 40 = .ok (.iastore, 1) := by decide +kernel
theorem d1_41 : decode method_2_code 41 = .ok (.dup, 1) := by decide +kernel
theorem d1_42 : decode method_2_code 42 = .ok (.bipush 6, 2) := by decide +kernel
theorem d1_44 : decode method_2_code 44 = .ok (.ldc 10, 2) := by decide +kernel
theorem d1_46 : decode method_2_code 46 = .ok (.iastore, 1) := by decide +kernel
theorem d1_47 : decode method_2_code 47 = .ok (.dup, 1) := by decide +kernel
theorem d1_48 : decode method_2_code 48 = .ok (.bipush 7, 2) := by decide +kernel
theorem d1_50 : decode method_2_code 50 = .ok (.ldc 11, 2) := by decide +kernel
theorem d1_52 : decode method_2_code 52 = .ok (.iastore, 1) := by decide +kernel
theorem d1_53 : decode method_2_code 53 = .ok (.dup, 1) := by decide +kernel
theorem d1_54 : decode method_2_code 54 = .ok (.bipush 8, 2) := by decide +kernel
theorem d1_56 : decode method_2_code 56 = .ok (.ldc 12, 2) := by decide +kernel
theorem d1_58 : decode method_2_code 58 = .ok (.iastore, 1) := by decide +kernel
theorem d1_59 : decode method_2_code 59 = .ok (.dup, 1) := by decide +kernel
theorem d1_60 : decode method_2_code 60 = .ok (.bipush 9, 2) := by decide +kernel
theorem d1_62 : decode method_2_code 62 = .ok (.ldc 13, 2) := by decide +kernel
theorem d1_64 : decode method_2_code 64 = .ok (.iastore, 1) := by decide +kernel
theorem d1_65 : decode method_2_code 65 = .ok (.dup, 1) := by decide +kernel
theorem d1_66 : decode method_2_code 66 = .ok (.bipush 10, 2) := by decide +kernel
theorem d1_68 : decode method_2_code 68 = .ok (.ldc 14, 2) := by decide +kernel
theorem d1_70 : decode method_2_code 70 = .ok (.iastore, 1) := by decide +kernel
theorem d1_71 : decode method_2_code 71 = .ok (.dup, 1) := by decide +kernel
theorem d1_72 : decode method_2_code 72 = .ok (.bipush 11, 2) := by decide +kernel
theorem d1_74 : decode method_2_code 74 = .ok (.ldc 15, 2) := by decide +kernel
theorem d1_76 : decode method_2_code 76 = .ok (.iastore, 1) := by decide +kernel
theorem d1_77 : decode method_2_code 77 = .ok (.dup, 1) := by decide +kernel
theorem d1_78 : decode method_2_code 78 = .ok (.bipush 12, 2) := by decide +kernel
theorem d1_80 : decode method_2_code 80 = .ok (.ldc 16, 2) := by decide +kernel
theorem d1_82 : decode method_2_code 82 = .ok (.iastore, 1) := by decide +kernel
theorem d1_83 : decode method_2_code 83 = .ok (.dup, 1) := by decide +kernel
theorem d1_84 : decode method_2_code 84 = .ok (.bipush 13, 2) := by decide +kernel
theorem d1_86 : decode method_2_code 86 = .ok (.ldc 17, 2) := by decide +kernel
theorem d1_88 : decode method_2_code 88 = .ok (.iastore, 1) := by decide +kernel
theorem d1_89 : decode method_2_code 89 = .ok (.dup, 1) := by decide +kernel
theorem d1_90 : decode method_2_code 90 = .ok (.bipush 14, 2) := by decide +kernel
theorem d1_92 : decode method_2_code 92 = .ok (.ldc 18, 2) := by decide +kernel
theorem d1_94 : decode method_2_code 94 = .ok (.iastore, 1) := by decide +kernel
theorem d1_95 : decode method_2_code 95 = .ok (.dup, 1) := by decide +kernel
theorem d1_96 : decode method_2_code 96 = .ok (.bipush 15, 2) := by decide +kernel
theorem d1_98 : decode method_2_code 98 = .ok (.ldc 19, 2) := by decide +kernel
theorem d1_100 : decode method_2_code 100 = .ok (.iastore, 1) := by decide +kernel
theorem d1_101 : decode method_2_code 101 = .ok (.dup, 1) := by decide +kernel
theorem d1_102 : decode method_2_code 102 = .ok (.bipush 16, 2) := by decide +kernel
theorem d1_104 : decode method_2_code 104 = .ok (.ldc 20, 2) := by decide +kernel
theorem d1_106 : decode method_2_code 106 = .ok (.iastore, 1) := by decide +kernel
theorem d1_107 : decode method_2_code 107 = .ok (.astore_n 3, 1) := by decide +kernel
theorem d1_108 : decode method_2_code 108 = .ok (.aload_n 3, 1) := by decide +kernel
theorem d1_109 : decode method_2_code 109 = .ok (.iload_n 1, 1) := by decide +kernel
theorem d1_110 : decode method_2_code 110 = .ok (.iconst 1, 1) := by decide +kernel
theorem d1_111 : decode method_2_code 111 = .ok (.iushr, 1) := by decide +kernel
theorem d1_112 : decode method_2_code 112 = .ok (.aload_n 3, 1) := by decide +kernel
theorem d1_113 : decode method_2_code 113 = .ok (.arraylength, 1) := by decide +kernel
theorem d1_114 : decode method_2_code 114 = .ok (.irem, 1) := by decide +kernel
theorem d1_115 : decode method_2_code 115 = .ok (.iaload, 1) := by decide +kernel
theorem d1_116 : decode method_2_code 116 = .ok (.istore 4, 2) := by decide +kernel
theorem d1_118 : decode method_2_code 118 = .ok (.iload_n 2, 1) := by decide +kernel
theorem d1_119 : decode method_2_code 119 = .ok (.ldc 20, 2) := by decide +kernel
theorem d1_121 : decode method_2_code 121 = .ok (.iand, 1) := by decide +kernel
theorem d1_122 : decode method_2_code 122 = .ok (.iconst 3, 1) := by decide +kernel
theorem d1_123 : decode method_2_code 123 = .ok (.irem, 1) := by decide +kernel
theorem d1_124 : decode method_2_code 124 = .ok (.iconst 1, 1) := by decide +kernel
theorem d1_125 : decode method_2_code 125 = .ok (.isub, 1) := by decide +kernel
theorem d1_126 : decode method_2_code 126 = .ok (.istore 5, 2) := by decide +kernel
theorem d1_128 : decode method_2_code 128 = .ok (.iload 4, 2) := by decide +kernel
theorem d1_130 : decode method_2_code 130 = .ok (.iload 5, 2) := by decide +kernel
theorem d1_132 : decode method_2_code 132 = .ok (.iadd, 1) := by decide +kernel
theorem d1_133 : decode method_2_code 133 = .ok (.ireturn, 1) := by decide +kernel
theorem pn_0 : plainName "com/example/inked_rows/inkedrows/xml/XmlNamesIsXmlCharPinLaw" = true := by first | (simp [plainName, overriddenIn]; done) | decide +kernel
theorem ef_1 (m : MethodId) (p0 : Int32) (p1 : Int32) (p2 : Int32) : entryFrame m #[(.int p0), (.int p1), (.int p2)] 6 = mkF m 0 #[.val (.int p0), .val (.int p1), .val (.int p2), .unset, .unset, .unset] [] := by first | (simp [entryFrame, mkF, argsToLocals, Value.category]; done) | rfl
def Q1 (p0 p1 p2 : Int32) (h0 : Heap) (n0 : Nat) (v : Option Value) (h : Heap) (L : List Loc) : Prop := v = some (.int (pickV p0 p1 p2)) ∧ Fr n0 L ∧ Keep h0 h []
set_option maxRecDepth 65536 in
set_option maxHeartbeats 40000000 in
theorem rm1 (l : Launch) (Z : State) (a0 : Array Value) (hw : ∀ d ∈ tables_1, d.before a0 Z = true) (ws : List Jvm.Cond) (p0 p1 p2 : Int32) (h0 : Heap) (n0 : Nat) (Z0 : n0 ≤ h0.size)  :
    MetFree l (⟨"com/example/inked_rows/inkedrows/xml/XmlNamesIsXmlCharPinLaw", "pick", "(III)I"⟩ : MethodName) (head1 (Jvm.Cond.code (⟨"com/example/inked_rows/inkedrows/xml/XmlNamesIsXmlCharPinLaw", "pick", "(III)I"⟩ : MethodName) method_2_code 6 (some .int) :: ws) ({ frames := 0, cells := 1, slots := 17, locals := 0 } : Room)) (fun a U => a = #[(.int p0), (.int p1), (.int p2)] ∧ Z.Warmed39 U.vm ∧ U.heap = h0) (fun _ _ _ _ _ => True) (fun _ U o U' => ∃ v L, o = .returned v ∧ Q1 p0 p1 p2 h0 n0 v U'.heap L ∧ FrameEnd U o U' L ({ frames := 0, cells := 1, slots := 17, locals := 0 } : Room).cells ({ frames := 0, cells := 1, slots := 17, locals := 0 } : Room).slots) := by
  refine MetFree.of_bodySF (plainFor_of_name pn_0) hisR ?_
  intro p e s m args below meth c s₁ Bd hml0 hP hK
  obtain ⟨rfl, hZ, hh⟩ := hP
  have hx := Bd.exec
  have hby := Bd.bytes
  have hml : c.maxLocals = 6 := hml0
  have hown : s.vm.findClass "com/example/inked_rows/inkedrows/xml/XmlNamesIsXmlCharPinLaw" = some m.cls := findClass_of_methodNamed Bd.named
  have hnm := (name_of_methodNamed Bd.named Bd.method).1
  have X0 : Stand p l e ({ frames := 0, cells := 1, slots := 17, locals := 0 } : Room) s m #[(.int p0), (.int p1), (.int p2)] below meth c s₁ [] 0 0 := Stand.of_body Bd
  have e0 : s₁.heap = h0 := by rw [← hh, Bd.state]; rfl
  have N0 := Fr.nil n0
  have pre0 : ∀ t, Steps p.tables e below (s₁.setTop (mkF m 0 #[.val (.int p0), .val (.int p1), .val (.int p2), .unset, .unset, .unset] [])) t → Steps p.tables e below (s₁.setTop (entryFrame m #[(.int p0), (.int p1), (.int p2)] 6)) t := fun t k => castTop (ef_1 m p0 p1 p2) k
  have pre1 : ∀ t, Steps p.tables e below (s₁.setTop (mkF m 3 #[.val (.int p0), .val (.int p1), .val (.int p2), .unset, .unset, .unset] [(.int (p1 &&& (1 : Int32)))])) t → Steps p.tables e below (s₁.setTop (entryFrame m #[(.int p0), (.int p1), (.int p2)] 6)) t := fun t kt => pre0 t (by
      show Steps p.tables e below (s₁.setTop (mkF m 0 #[.val (.int p0), .val (.int p1), .val (.int p2), .unset, .unset, .unset] [])) _
      refine XS.iloadN X0.here hx rfl (hb hby d1_0) rfl ?_
      show Steps p.tables e below (s₁.setTop (mkF m 1 #[.val (.int p0), .val (.int p1), .val (.int p2), .unset, .unset, .unset] [(.int p1)])) _
      refine XS.iconst X0.here hx rfl (hb hby d1_1) ?_
      show Steps p.tables e below (s₁.setTop (mkF m 2 #[.val (.int p0), .val (.int p1), .val (.int p2), .unset, .unset, .unset] [(.int (1 : Int32)), (.int p1)])) _
      refine XS.iand X0.here hx rfl (hb hby d1_2) rfl ?_
      exact kt)
  by_cases hc3 : (p1 &&& (1 : Int32)) = (0 : Int32)
  · obtain ⟨fs, hr, hrun, hended, hW, hsame⟩ := X0.leave (v := some (.int p0)) (fun h => by rw [Bd.returns] at h; cases h)
    refine ⟨_, _, pre1 _ ?_, hrun, hended, _, _, rfl, ?_, ⟨_, rfl⟩, hW, hsame.mono (by decide) (by decide)⟩
    · show Steps p.tables e below (s₁.setTop (mkF m 3 #[.val (.int p0), .val (.int p1), .val (.int p2), .unset, .unset, .unset] [(.int (p1 &&& (1 : Int32)))])) _
      refine XS.ifNo X0.here hx rfl (hb hby d1_3) rfl ((if0 _ _).trans (teq (show (p1 &&& (1 : Int32)) = (0 : Int32) from hc3)).2) ?_
      show Steps p.tables e below (s₁.setTop (mkF m 6 #[.val (.int p0), .val (.int p1), .val (.int p2), .unset, .unset, .unset] [])) _
      refine XS.iloadN X0.here hx rfl (hb hby d1_6) rfl ?_
      show Steps p.tables e below (s₁.setTop (mkF m 7 #[.val (.int p0), .val (.int p1), .val (.int p2), .unset, .unset, .unset] [(.int p0)])) _
      exact retI X0 hx Bd.returns (hb hby d1_7) hr
    · show Q1 p0 p1 p2 h0 n0 _ s₁.heap _
      rw [e0]
      exact ⟨(by rw [pickV, if_pos hc3]), N0, (Keep.refl h0 [])⟩
  · obtain ⟨T2, h2, k2, X2, e2, E2, A2, st2⟩ := newP X0 hx hZ (hw _ (List.mem_of_getElem? (i := 4) rfl)) e0 (g := (mkF m 10 #[.val (.int p0), .val (.int p1), .val (.int p2), .unset, .unset, .unset] [(.int (17 : Int32))])) rfl (hb hby d1_10) rfl (by decide) (cap := 17) (by decide) (by decide) (by decide) (by decide)
    obtain ⟨b2, g2⟩ : ∃ z, z = h0.size := ⟨_, rfl⟩
    rw [← g2] at A2 st2
    have g_b2 : n0 ≤ b2 := Nat.le_trans Z0 (Nat.le_of_eq g2.symm)
    have sz_b2 : h0.size ≤ b2 := Nat.le_trans (Keep.refl h0 []).1 (Nat.le_of_eq g2.symm)
    have K2 : Keep h0 h2 [] := Keep.ext (Keep.refl h0 []) E2
    have Z2 : n0 ≤ h2.size := Nat.le_trans Z0 K2.1
    have V_b2 : Arv Z h2 b2 k2 .int (17 : Int32) [(.int (0 : Int32)), (.int (0 : Int32)), (.int (0 : Int32)), (.int (0 : Int32)), (.int (0 : Int32)), (.int (0 : Int32)), (.int (0 : Int32)), (.int (0 : Int32)), (.int (0 : Int32)), (.int (0 : Int32)), (.int (0 : Int32)), (.int (0 : Int32)), (.int (0 : Int32)), (.int (0 : Int32)), (.int (0 : Int32)), (.int (0 : Int32)), (.int (0 : Int32))] (.int (0 : Int32)) := (Arv.new A2 (by decide)).pad (pad_rep [] (.int (0 : Int32)) 17)
    obtain ⟨cl3, Ar3, q3, S3, Nn3, Hh3, Gg3⟩ := id V_b2
    have hin3 : ¬ ((0 : Int32) < 0 ∨ cl3.slots.size ≤ ((0 : Int32)).toNatClampNeg) := inb_of S3 ⟨by decide, by decide⟩
    obtain ⟨T4, h4, X4, e4, W4, st4⟩ := stI X2 hx hZ e2 Ar3 (j := (0 : Int32)) hin3 (g := (mkF m 16 #[.val (.int p0), .val (.int p1), .val (.int p2), .unset, .unset, .unset] [(.int (-2147483648 : Int32)), (.int (0 : Int32)), (.ref b2), (.ref b2)])) rfl rfl (hb hby d1_16)
    have V4 : Arv Z h4 b2 k2 .int (17 : Int32) [(.int (-2147483648 : Int32)), (.int (0 : Int32)), (.int (0 : Int32)), (.int (0 : Int32)), (.int (0 : Int32)), (.int (0 : Int32)), (.int (0 : Int32)), (.int (0 : Int32)), (.int (0 : Int32)), (.int (0 : Int32)), (.int (0 : Int32)), (.int (0 : Int32)), (.int (0 : Int32)), (.int (0 : Int32)), (.int (0 : Int32)), (.int (0 : Int32)), (.int (0 : Int32))] (.int (0 : Int32)) := Arv.set Ar3 q3 S3 Nn3 Hh3 Gg3 rfl W4 0 rfl (Nat.le_of_ble_eq_true rfl)
    have K4 : Keep h0 h4 [] := Keep.wr K2 W4 (Or.inr sz_b2)
    have Z4 : n0 ≤ h4.size := Nat.le_trans Z0 K4.1
    have N4 := Fr.snoc X4 N0 g_b2
    obtain ⟨cl5, Ar5, q5, S5, Nn5, Hh5, Gg5⟩ := id V4
    have hin5 : ¬ ((1 : Int32) < 0 ∨ cl5.slots.size ≤ ((1 : Int32)).toNatClampNeg) := inb_of S5 ⟨by decide, by decide⟩
    obtain ⟨T6, h6, X6, e6, W6, st6⟩ := stI X4 hx hZ e4 Ar5 (j := (1 : Int32)) hin5 (g := (mkF m 20 #[.val (.int p0), .val (.int p1), .val (.int p2), .unset, .unset, .unset] [(.int (0 : Int32)), (.int (1 : Int32)), (.ref b2), (.ref b2)])) rfl rfl (hb hby d1_20)
    have V6 : Arv Z h6 b2 k2 .int (17 : Int32) [(.int (-2147483648 : Int32)), (.int (0 : Int32)), (.int (0 : Int32)), (.int (0 : Int32)), (.int (0 : Int32)), (.int (0 : Int32)), (.int (0 : Int32)), (.int (0 : Int32)), (.int (0 : Int32)), (.int (0 : Int32)), (.int (0 : Int32)), (.int (0 : Int32)), (.int (0 : Int32)), (.int (0 : Int32)), (.int (0 : Int32)), (.int (0 : Int32)), (.int (0 : Int32))] (.int (0 : Int32)) := Arv.set Ar5 q5 S5 Nn5 Hh5 Gg5 rfl W6 1 rfl (Nat.le_of_ble_eq_true rfl)
    have K6 : Keep h0 h6 [] := Keep.wr K4 W6 (Or.inr sz_b2)
    have Z6 : n0 ≤ h6.size := Nat.le_trans Z0 K6.1
    have N6 := Fr.snoc X6 N4 g_b2
    obtain ⟨cl7, Ar7, q7, S7, Nn7, Hh7, Gg7⟩ := id V6
    have hin7 : ¬ ((2 : Int32) < 0 ∨ cl7.slots.size ≤ ((2 : Int32)).toNatClampNeg) := inb_of S7 ⟨by decide, by decide⟩
    obtain ⟨T8, h8, X8, e8, W8, st8⟩ := stI X6 hx hZ e6 Ar7 (j := (2 : Int32)) hin7 (g := (mkF m 25 #[.val (.int p0), .val (.int p1), .val (.int p2), .unset, .unset, .unset] [(.int (9 : Int32)), (.int (2 : Int32)), (.ref b2), (.ref b2)])) rfl rfl (hb hby d1_25)
    have V8 : Arv Z h8 b2 k2 .int (17 : Int32) [(.int (-2147483648 : Int32)), (.int (0 : Int32)), (.int (9 : Int32)), (.int (0 : Int32)), (.int (0 : Int32)), (.int (0 : Int32)), (.int (0 : Int32)), (.int (0 : Int32)), (.int (0 : Int32)), (.int (0 : Int32)), (.int (0 : Int32)), (.int (0 : Int32)), (.int (0 : Int32)), (.int (0 : Int32)), (.int (0 : Int32)), (.int (0 : Int32)), (.int (0 : Int32))] (.int (0 : Int32)) := Arv.set Ar7 q7 S7 Nn7 Hh7 Gg7 rfl W8 2 rfl (Nat.le_of_ble_eq_true rfl)
    have K8 : Keep h0 h8 [] := Keep.wr K6 W8 (Or.inr sz_b2)
    have Z8 : n0 ≤ h8.size := Nat.le_trans Z0 K8.1
    have N8 := Fr.snoc X8 N6 g_b2
    obtain ⟨cl9, Ar9, q9, S9, Nn9, Hh9, Gg9⟩ := id V8
    have hin9 : ¬ ((3 : Int32) < 0 ∨ cl9.slots.size ≤ ((3 : Int32)).toNatClampNeg) := inb_of S9 ⟨by decide, by decide⟩
    obtain ⟨T10, h10, X10, e10, W10, st10⟩ := stI X8 hx hZ e8 Ar9 (j := (3 : Int32)) hin9 (g := (mkF m 30 #[.val (.int p0), .val (.int p1), .val (.int p2), .unset, .unset, .unset] [(.int (10 : Int32)), (.int (3 : Int32)), (.ref b2), (.ref b2)])) rfl rfl (hb hby d1_30)
    have V10 : Arv Z h10 b2 k2 .int (17 : Int32) [(.int (-2147483648 : Int32)), (.int (0 : Int32)), (.int (9 : Int32)), (.int (10 : Int32)), (.int (0 : Int32)), (.int (0 : Int32)), (.int (0 : Int32)), (.int (0 : Int32)), (.int (0 : Int32)), (.int (0 : Int32)), (.int (0 : Int32)), (.int (0 : Int32)), (.int (0 : Int32)), (.int (0 : Int32)), (.int (0 : Int32)), (.int (0 : Int32)), (.int (0 : Int32))] (.int (0 : Int32)) := Arv.set Ar9 q9 S9 Nn9 Hh9 Gg9 rfl W10 3 rfl (Nat.le_of_ble_eq_true rfl)
    have K10 : Keep h0 h10 [] := Keep.wr K8 W10 (Or.inr sz_b2)
    have Z10 : n0 ≤ h10.size := Nat.le_trans Z0 K10.1
    have N10 := Fr.snoc X10 N8 g_b2
    obtain ⟨cl11, Ar11, q11, S11, Nn11, Hh11, Gg11⟩ := id V10
    have hin11 : ¬ ((4 : Int32) < 0 ∨ cl11.slots.size ≤ ((4 : Int32)).toNatClampNeg) := inb_of S11 ⟨by decide, by decide⟩
    obtain ⟨T12, h12, X12, e12, W12, st12⟩ := stI X10 hx hZ e10 Ar11 (j := (4 : Int32)) hin11 (g := (mkF m 35 #[.val (.int p0), .val (.int p1), .val (.int p2), .unset, .unset, .unset] [(.int (13 : Int32)), (.int (4 : Int32)), (.ref b2), (.ref b2)])) rfl rfl (hb hby d1_35)
    have V12 : Arv Z h12 b2 k2 .int (17 : Int32) [(.int (-2147483648 : Int32)), (.int (0 : Int32)), (.int (9 : Int32)), (.int (10 : Int32)), (.int (13 : Int32)), (.int (0 : Int32)), (.int (0 : Int32)), (.int (0 : Int32)), (.int (0 : Int32)), (.int (0 : Int32)), (.int (0 : Int32)), (.int (0 : Int32)), (.int (0 : Int32)), (.int (0 : Int32)), (.int (0 : Int32)), (.int (0 : Int32)), (.int (0 : Int32))] (.int (0 : Int32)) := Arv.set Ar11 q11 S11 Nn11 Hh11 Gg11 rfl W12 4 rfl (Nat.le_of_ble_eq_true rfl)
    have K12 : Keep h0 h12 [] := Keep.wr K10 W12 (Or.inr sz_b2)
    have Z12 : n0 ≤ h12.size := Nat.le_trans Z0 K12.1
    have N12 := Fr.snoc X12 N10 g_b2
    obtain ⟨cl13, Ar13, q13, S13, Nn13, Hh13, Gg13⟩ := id V12
    have hin13 : ¬ ((5 : Int32) < 0 ∨ cl13.slots.size ≤ ((5 : Int32)).toNatClampNeg) := inb_of S13 ⟨by decide, by decide⟩
    obtain ⟨T14, h14, X14, e14, W14, st14⟩ := stI X12 hx hZ e12 Ar13 (j := (5 : Int32)) hin13 (g := (mkF m 40 #[.val (.int p0), .val (.int p1), .val (.int p2), .unset, .unset, .unset] [(.int (32 : Int32)), (.int (5 : Int32)), (.ref b2), (.ref b2)])) rfl rfl (hb hby d1_40)
    have V14 : Arv Z h14 b2 k2 .int (17 : Int32) [(.int (-2147483648 : Int32)), (.int (0 : Int32)), (.int (9 : Int32)), (.int (10 : Int32)), (.int (13 : Int32)), (.int (32 : Int32)), (.int (0 : Int32)), (.int (0 : Int32)), (.int (0 : Int32)), (.int (0 : Int32)), (.int (0 : Int32)), (.int (0 : Int32)), (.int (0 : Int32)), (.int (0 : Int32)), (.int (0 : Int32)), (.int (0 : Int32)), (.int (0 : Int32))] (.int (0 : Int32)) := Arv.set Ar13 q13 S13 Nn13 Hh13 Gg13 rfl W14 5 rfl (Nat.le_of_ble_eq_true rfl)
    have K14 : Keep h0 h14 [] := Keep.wr K12 W14 (Or.inr sz_b2)
    have Z14 : n0 ≤ h14.size := Nat.le_trans Z0 K14.1
    have N14 := Fr.snoc X14 N12 g_b2
    obtain ⟨cl15, Ar15, q15, S15, Nn15, Hh15, Gg15⟩ := id V14
    have hin15 : ¬ ((6 : Int32) < 0 ∨ cl15.slots.size ≤ ((6 : Int32)).toNatClampNeg) := inb_of S15 ⟨by decide, by decide⟩
    obtain ⟨T16, h16, X16, e16, W16, st16⟩ := stI X14 hx hZ e14 Ar15 (j := (6 : Int32)) hin15 (g := (mkF m 46 #[.val (.int p0), .val (.int p1), .val (.int p2), .unset, .unset, .unset] [(.int (55295 : Int32)), (.int (6 : Int32)), (.ref b2), (.ref b2)])) rfl rfl (hb hby d1_46)
    have V16 : Arv Z h16 b2 k2 .int (17 : Int32) [(.int (-2147483648 : Int32)), (.int (0 : Int32)), (.int (9 : Int32)), (.int (10 : Int32)), (.int (13 : Int32)), (.int (32 : Int32)), (.int (55295 : Int32)), (.int (0 : Int32)), (.int (0 : Int32)), (.int (0 : Int32)), (.int (0 : Int32)), (.int (0 : Int32)), (.int (0 : Int32)), (.int (0 : Int32)), (.int (0 : Int32)), (.int (0 : Int32)), (.int (0 : Int32))] (.int (0 : Int32)) := Arv.set Ar15 q15 S15 Nn15 Hh15 Gg15 rfl W16 6 rfl (Nat.le_of_ble_eq_true rfl)
    have K16 : Keep h0 h16 [] := Keep.wr K14 W16 (Or.inr sz_b2)
    have Z16 : n0 ≤ h16.size := Nat.le_trans Z0 K16.1
    have N16 := Fr.snoc X16 N14 g_b2
    obtain ⟨cl17, Ar17, q17, S17, Nn17, Hh17, Gg17⟩ := id V16
    have hin17 : ¬ ((7 : Int32) < 0 ∨ cl17.slots.size ≤ ((7 : Int32)).toNatClampNeg) := inb_of S17 ⟨by decide, by decide⟩
    obtain ⟨T18, h18, X18, e18, W18, st18⟩ := stI X16 hx hZ e16 Ar17 (j := (7 : Int32)) hin17 (g := (mkF m 52 #[.val (.int p0), .val (.int p1), .val (.int p2), .unset, .unset, .unset] [(.int (55296 : Int32)), (.int (7 : Int32)), (.ref b2), (.ref b2)])) rfl rfl (hb hby d1_52)
    have V18 : Arv Z h18 b2 k2 .int (17 : Int32) [(.int (-2147483648 : Int32)), (.int (0 : Int32)), (.int (9 : Int32)), (.int (10 : Int32)), (.int (13 : Int32)), (.int (32 : Int32)), (.int (55295 : Int32)), (.int (55296 : Int32)), (.int (0 : Int32)), (.int (0 : Int32)), (.int (0 : Int32)), (.int (0 : Int32)), (.int (0 : Int32)), (.int (0 : Int32)), (.int (0 : Int32)), (.int (0 : Int32)), (.int (0 : Int32))] (.int (0 : Int32)) := Arv.set Ar17 q17 S17 Nn17 Hh17 Gg17 rfl W18 7 rfl (Nat.le_of_ble_eq_true rfl)
    have K18 : Keep h0 h18 [] := Keep.wr K16 W18 (Or.inr sz_b2)
    have Z18 : n0 ≤ h18.size := Nat.le_trans Z0 K18.1
    have N18 := Fr.snoc X18 N16 g_b2
    obtain ⟨cl19, Ar19, q19, S19, Nn19, Hh19, Gg19⟩ := id V18
    have hin19 : ¬ ((8 : Int32) < 0 ∨ cl19.slots.size ≤ ((8 : Int32)).toNatClampNeg) := inb_of S19 ⟨by decide, by decide⟩
    obtain ⟨T20, h20, X20, e20, W20, st20⟩ := stI X18 hx hZ e18 Ar19 (j := (8 : Int32)) hin19 (g := (mkF m 58 #[.val (.int p0), .val (.int p1), .val (.int p2), .unset, .unset, .unset] [(.int (57343 : Int32)), (.int (8 : Int32)), (.ref b2), (.ref b2)])) rfl rfl (hb hby d1_58)
    have V20 : Arv Z h20 b2 k2 .int (17 : Int32) [(.int (-2147483648 : Int32)), (.int (0 : Int32)), (.int (9 : Int32)), (.int (10 : Int32)), (.int (13 : Int32)), (.int (32 : Int32)), (.int (55295 : Int32)), (.int (55296 : Int32)), (.int (57343 : Int32)), (.int (0 : Int32)), (.int (0 : Int32)), (.int (0 : Int32)), (.int (0 : Int32)), (.int (0 : Int32)), (.int (0 : Int32)), (.int (0 : Int32)), (.int (0 : Int32))] (.int (0 : Int32)) := Arv.set Ar19 q19 S19 Nn19 Hh19 Gg19 rfl W20 8 rfl (Nat.le_of_ble_eq_true rfl)
    have K20 : Keep h0 h20 [] := Keep.wr K18 W20 (Or.inr sz_b2)
    have Z20 : n0 ≤ h20.size := Nat.le_trans Z0 K20.1
    have N20 := Fr.snoc X20 N18 g_b2
    obtain ⟨cl21, Ar21, q21, S21, Nn21, Hh21, Gg21⟩ := id V20
    have hin21 : ¬ ((9 : Int32) < 0 ∨ cl21.slots.size ≤ ((9 : Int32)).toNatClampNeg) := inb_of S21 ⟨by decide, by decide⟩
    obtain ⟨T22, h22, X22, e22, W22, st22⟩ := stI X20 hx hZ e20 Ar21 (j := (9 : Int32)) hin21 (g := (mkF m 64 #[.val (.int p0), .val (.int p1), .val (.int p2), .unset, .unset, .unset] [(.int (57344 : Int32)), (.int (9 : Int32)), (.ref b2), (.ref b2)])) rfl rfl (hb hby d1_64)
    have V22 : Arv Z h22 b2 k2 .int (17 : Int32) [(.int (-2147483648 : Int32)), (.int (0 : Int32)), (.int (9 : Int32)), (.int (10 : Int32)), (.int (13 : Int32)), (.int (32 : Int32)), (.int (55295 : Int32)), (.int (55296 : Int32)), (.int (57343 : Int32)), (.int (57344 : Int32)), (.int (0 : Int32)), (.int (0 : Int32)), (.int (0 : Int32)), (.int (0 : Int32)), (.int (0 : Int32)), (.int (0 : Int32)), (.int (0 : Int32))] (.int (0 : Int32)) := Arv.set Ar21 q21 S21 Nn21 Hh21 Gg21 rfl W22 9 rfl (Nat.le_of_ble_eq_true rfl)
    have K22 : Keep h0 h22 [] := Keep.wr K20 W22 (Or.inr sz_b2)
    have Z22 : n0 ≤ h22.size := Nat.le_trans Z0 K22.1
    have N22 := Fr.snoc X22 N20 g_b2
    obtain ⟨cl23, Ar23, q23, S23, Nn23, Hh23, Gg23⟩ := id V22
    have hin23 : ¬ ((10 : Int32) < 0 ∨ cl23.slots.size ≤ ((10 : Int32)).toNatClampNeg) := inb_of S23 ⟨by decide, by decide⟩
    obtain ⟨T24, h24, X24, e24, W24, st24⟩ := stI X22 hx hZ e22 Ar23 (j := (10 : Int32)) hin23 (g := (mkF m 70 #[.val (.int p0), .val (.int p1), .val (.int p2), .unset, .unset, .unset] [(.int (65533 : Int32)), (.int (10 : Int32)), (.ref b2), (.ref b2)])) rfl rfl (hb hby d1_70)
    have V24 : Arv Z h24 b2 k2 .int (17 : Int32) [(.int (-2147483648 : Int32)), (.int (0 : Int32)), (.int (9 : Int32)), (.int (10 : Int32)), (.int (13 : Int32)), (.int (32 : Int32)), (.int (55295 : Int32)), (.int (55296 : Int32)), (.int (57343 : Int32)), (.int (57344 : Int32)), (.int (65533 : Int32)), (.int (0 : Int32)), (.int (0 : Int32)), (.int (0 : Int32)), (.int (0 : Int32)), (.int (0 : Int32)), (.int (0 : Int32))] (.int (0 : Int32)) := Arv.set Ar23 q23 S23 Nn23 Hh23 Gg23 rfl W24 10 rfl (Nat.le_of_ble_eq_true rfl)
    have K24 : Keep h0 h24 [] := Keep.wr K22 W24 (Or.inr sz_b2)
    have Z24 : n0 ≤ h24.size := Nat.le_trans Z0 K24.1
    have N24 := Fr.snoc X24 N22 g_b2
    obtain ⟨cl25, Ar25, q25, S25, Nn25, Hh25, Gg25⟩ := id V24
    have hin25 : ¬ ((11 : Int32) < 0 ∨ cl25.slots.size ≤ ((11 : Int32)).toNatClampNeg) := inb_of S25 ⟨by decide, by decide⟩
    obtain ⟨T26, h26, X26, e26, W26, st26⟩ := stI X24 hx hZ e24 Ar25 (j := (11 : Int32)) hin25 (g := (mkF m 76 #[.val (.int p0), .val (.int p1), .val (.int p2), .unset, .unset, .unset] [(.int (65534 : Int32)), (.int (11 : Int32)), (.ref b2), (.ref b2)])) rfl rfl (hb hby d1_76)
    have V26 : Arv Z h26 b2 k2 .int (17 : Int32) [(.int (-2147483648 : Int32)), (.int (0 : Int32)), (.int (9 : Int32)), (.int (10 : Int32)), (.int (13 : Int32)), (.int (32 : Int32)), (.int (55295 : Int32)), (.int (55296 : Int32)), (.int (57343 : Int32)), (.int (57344 : Int32)), (.int (65533 : Int32)), (.int (65534 : Int32)), (.int (0 : Int32)), (.int (0 : Int32)), (.int (0 : Int32)), (.int (0 : Int32)), (.int (0 : Int32))] (.int (0 : Int32)) := Arv.set Ar25 q25 S25 Nn25 Hh25 Gg25 rfl W26 11 rfl (Nat.le_of_ble_eq_true rfl)
    have K26 : Keep h0 h26 [] := Keep.wr K24 W26 (Or.inr sz_b2)
    have Z26 : n0 ≤ h26.size := Nat.le_trans Z0 K26.1
    have N26 := Fr.snoc X26 N24 g_b2
    obtain ⟨cl27, Ar27, q27, S27, Nn27, Hh27, Gg27⟩ := id V26
    have hin27 : ¬ ((12 : Int32) < 0 ∨ cl27.slots.size ≤ ((12 : Int32)).toNatClampNeg) := inb_of S27 ⟨by decide, by decide⟩
    obtain ⟨T28, h28, X28, e28, W28, st28⟩ := stI X26 hx hZ e26 Ar27 (j := (12 : Int32)) hin27 (g := (mkF m 82 #[.val (.int p0), .val (.int p1), .val (.int p2), .unset, .unset, .unset] [(.int (65535 : Int32)), (.int (12 : Int32)), (.ref b2), (.ref b2)])) rfl rfl (hb hby d1_82)
    have V28 : Arv Z h28 b2 k2 .int (17 : Int32) [(.int (-2147483648 : Int32)), (.int (0 : Int32)), (.int (9 : Int32)), (.int (10 : Int32)), (.int (13 : Int32)), (.int (32 : Int32)), (.int (55295 : Int32)), (.int (55296 : Int32)), (.int (57343 : Int32)), (.int (57344 : Int32)), (.int (65533 : Int32)), (.int (65534 : Int32)), (.int (65535 : Int32)), (.int (0 : Int32)), (.int (0 : Int32)), (.int (0 : Int32)), (.int (0 : Int32))] (.int (0 : Int32)) := Arv.set Ar27 q27 S27 Nn27 Hh27 Gg27 rfl W28 12 rfl (Nat.le_of_ble_eq_true rfl)
    have K28 : Keep h0 h28 [] := Keep.wr K26 W28 (Or.inr sz_b2)
    have Z28 : n0 ≤ h28.size := Nat.le_trans Z0 K28.1
    have N28 := Fr.snoc X28 N26 g_b2
    obtain ⟨cl29, Ar29, q29, S29, Nn29, Hh29, Gg29⟩ := id V28
    have hin29 : ¬ ((13 : Int32) < 0 ∨ cl29.slots.size ≤ ((13 : Int32)).toNatClampNeg) := inb_of S29 ⟨by decide, by decide⟩
    obtain ⟨T30, h30, X30, e30, W30, st30⟩ := stI X28 hx hZ e28 Ar29 (j := (13 : Int32)) hin29 (g := (mkF m 88 #[.val (.int p0), .val (.int p1), .val (.int p2), .unset, .unset, .unset] [(.int (65536 : Int32)), (.int (13 : Int32)), (.ref b2), (.ref b2)])) rfl rfl (hb hby d1_88)
    have V30 : Arv Z h30 b2 k2 .int (17 : Int32) [(.int (-2147483648 : Int32)), (.int (0 : Int32)), (.int (9 : Int32)), (.int (10 : Int32)), (.int (13 : Int32)), (.int (32 : Int32)), (.int (55295 : Int32)), (.int (55296 : Int32)), (.int (57343 : Int32)), (.int (57344 : Int32)), (.int (65533 : Int32)), (.int (65534 : Int32)), (.int (65535 : Int32)), (.int (65536 : Int32)), (.int (0 : Int32)), (.int (0 : Int32)), (.int (0 : Int32))] (.int (0 : Int32)) := Arv.set Ar29 q29 S29 Nn29 Hh29 Gg29 rfl W30 13 rfl (Nat.le_of_ble_eq_true rfl)
    have K30 : Keep h0 h30 [] := Keep.wr K28 W30 (Or.inr sz_b2)
    have Z30 : n0 ≤ h30.size := Nat.le_trans Z0 K30.1
    have N30 := Fr.snoc X30 N28 g_b2
    obtain ⟨cl31, Ar31, q31, S31, Nn31, Hh31, Gg31⟩ := id V30
    have hin31 : ¬ ((14 : Int32) < 0 ∨ cl31.slots.size ≤ ((14 : Int32)).toNatClampNeg) := inb_of S31 ⟨by decide, by decide⟩
    obtain ⟨T32, h32, X32, e32, W32, st32⟩ := stI X30 hx hZ e30 Ar31 (j := (14 : Int32)) hin31 (g := (mkF m 94 #[.val (.int p0), .val (.int p1), .val (.int p2), .unset, .unset, .unset] [(.int (1114111 : Int32)), (.int (14 : Int32)), (.ref b2), (.ref b2)])) rfl rfl (hb hby d1_94)
    have V32 : Arv Z h32 b2 k2 .int (17 : Int32) [(.int (-2147483648 : Int32)), (.int (0 : Int32)), (.int (9 : Int32)), (.int (10 : Int32)), (.int (13 : Int32)), (.int (32 : Int32)), (.int (55295 : Int32)), (.int (55296 : Int32)), (.int (57343 : Int32)), (.int (57344 : Int32)), (.int (65533 : Int32)), (.int (65534 : Int32)), (.int (65535 : Int32)), (.int (65536 : Int32)), (.int (1114111 : Int32)), (.int (0 : Int32)), (.int (0 : Int32))] (.int (0 : Int32)) := Arv.set Ar31 q31 S31 Nn31 Hh31 Gg31 rfl W32 14 rfl (Nat.le_of_ble_eq_true rfl)
    have K32 : Keep h0 h32 [] := Keep.wr K30 W32 (Or.inr sz_b2)
    have Z32 : n0 ≤ h32.size := Nat.le_trans Z0 K32.1
    have N32 := Fr.snoc X32 N30 g_b2
    obtain ⟨cl33, Ar33, q33, S33, Nn33, Hh33, Gg33⟩ := id V32
    have hin33 : ¬ ((15 : Int32) < 0 ∨ cl33.slots.size ≤ ((15 : Int32)).toNatClampNeg) := inb_of S33 ⟨by decide, by decide⟩
    obtain ⟨T34, h34, X34, e34, W34, st34⟩ := stI X32 hx hZ e32 Ar33 (j := (15 : Int32)) hin33 (g := (mkF m 100 #[.val (.int p0), .val (.int p1), .val (.int p2), .unset, .unset, .unset] [(.int (1114112 : Int32)), (.int (15 : Int32)), (.ref b2), (.ref b2)])) rfl rfl (hb hby d1_100)
    have V34 : Arv Z h34 b2 k2 .int (17 : Int32) [(.int (-2147483648 : Int32)), (.int (0 : Int32)), (.int (9 : Int32)), (.int (10 : Int32)), (.int (13 : Int32)), (.int (32 : Int32)), (.int (55295 : Int32)), (.int (55296 : Int32)), (.int (57343 : Int32)), (.int (57344 : Int32)), (.int (65533 : Int32)), (.int (65534 : Int32)), (.int (65535 : Int32)), (.int (65536 : Int32)), (.int (1114111 : Int32)), (.int (1114112 : Int32)), (.int (0 : Int32))] (.int (0 : Int32)) := Arv.set Ar33 q33 S33 Nn33 Hh33 Gg33 rfl W34 15 rfl (Nat.le_of_ble_eq_true rfl)
    have K34 : Keep h0 h34 [] := Keep.wr K32 W34 (Or.inr sz_b2)
    have Z34 : n0 ≤ h34.size := Nat.le_trans Z0 K34.1
    have N34 := Fr.snoc X34 N32 g_b2
    obtain ⟨cl35, Ar35, q35, S35, Nn35, Hh35, Gg35⟩ := id V34
    have hin35 : ¬ ((16 : Int32) < 0 ∨ cl35.slots.size ≤ ((16 : Int32)).toNatClampNeg) := inb_of S35 ⟨by decide, by decide⟩
    obtain ⟨T36, h36, X36, e36, W36, st36⟩ := stI X34 hx hZ e34 Ar35 (j := (16 : Int32)) hin35 (g := (mkF m 106 #[.val (.int p0), .val (.int p1), .val (.int p2), .unset, .unset, .unset] [(.int (2147483647 : Int32)), (.int (16 : Int32)), (.ref b2), (.ref b2)])) rfl rfl (hb hby d1_106)
    have V36 : Arv Z h36 b2 k2 .int (17 : Int32) [(.int (-2147483648 : Int32)), (.int (0 : Int32)), (.int (9 : Int32)), (.int (10 : Int32)), (.int (13 : Int32)), (.int (32 : Int32)), (.int (55295 : Int32)), (.int (55296 : Int32)), (.int (57343 : Int32)), (.int (57344 : Int32)), (.int (65533 : Int32)), (.int (65534 : Int32)), (.int (65535 : Int32)), (.int (65536 : Int32)), (.int (1114111 : Int32)), (.int (1114112 : Int32)), (.int (2147483647 : Int32))] (.int (0 : Int32)) := Arv.set Ar35 q35 S35 Nn35 Hh35 Gg35 rfl W36 16 rfl (Nat.le_of_ble_eq_true rfl)
    have K36 : Keep h0 h36 [] := Keep.wr K34 W36 (Or.inr sz_b2)
    have Z36 : n0 ≤ h36.size := Nat.le_trans Z0 K36.1
    have N36 := Fr.snoc X36 N34 g_b2
    obtain ⟨cl37, Ar37, -, S37, Nn37, -, -⟩ := id V36
    obtain ⟨cl38, Ar38, -, S38, Nn38, Hh38, -⟩ := id V36
    have hin38 : ¬ ((((p1.toUInt32 >>> ((1 : Int32) &&& 31).toUInt32).toInt32) - (((p1.toUInt32 >>> ((1 : Int32) &&& 31).toUInt32).toInt32) / (17 : Int32)) * (17 : Int32)) < 0 ∨ cl38.slots.size ≤ ((((p1.toUInt32 >>> ((1 : Int32) &&& 31).toUInt32).toInt32) - (((p1.toUInt32 >>> ((1 : Int32) &&& 31).toUInt32).toInt32) / (17 : Int32)) * (17 : Int32))).toNatClampNeg) := inb_of S38 (own_in17 p1)
    have hat38 : cl38.slots[((((p1.toUInt32 >>> ((1 : Int32) &&& 31).toUInt32).toInt32) - (((p1.toUInt32 >>> ((1 : Int32) &&& 31).toUInt32).toInt32) / (17 : Int32)) * (17 : Int32))).toNatClampNeg]? = some (.int (edgeAt (((p1.toUInt32 >>> ((1 : Int32) &&& 31).toUInt32).toInt32) - (((p1.toUInt32 >>> ((1 : Int32) &&& 31).toUInt32).toInt32) / (17 : Int32)) * (17 : Int32)))) := Hh38.at hin38 (own_edge (((p1.toUInt32 >>> ((1 : Int32) &&& 31).toUInt32).toInt32) - (((p1.toUInt32 >>> ((1 : Int32) &&& 31).toUInt32).toInt32) / (17 : Int32)) * (17 : Int32)))
    obtain ⟨fs, hr, hrun, hended, hW, hsame⟩ := X36.leave (v := some (.int ((edgeAt (((p1.toUInt32 >>> ((1 : Int32) &&& 31).toUInt32).toInt32) - (((p1.toUInt32 >>> ((1 : Int32) &&& 31).toUInt32).toInt32) / (17 : Int32)) * (17 : Int32))) + (((p2 &&& (2147483647 : Int32)) - ((p2 &&& (2147483647 : Int32)) / (3 : Int32)) * (3 : Int32)) - (1 : Int32))))) (fun h => by rw [Bd.returns] at h; cases h)
    refine ⟨_, _, pre1 _ ?_, hrun, hended, _, _, rfl, ?_, ⟨_, rfl⟩, hW, hsame.mono (by decide) (by decide)⟩
    · show Steps p.tables e below (s₁.setTop (mkF m 3 #[.val (.int p0), .val (.int p1), .val (.int p2), .unset, .unset, .unset] [(.int (p1 &&& (1 : Int32)))])) _
      refine XS.ifYes X0.here hx rfl (pc0 := 3) (pc' := 8) rfl (hb hby d1_3) rfl ((if0 _ _).trans (feq (show ¬ ((p1 &&& (1 : Int32)) = (0 : Int32)) from hc3)).2) (by decide) (by decide) ?_
      show Steps p.tables e below (s₁.setTop (mkF m 8 #[.val (.int p0), .val (.int p1), .val (.int p2), .unset, .unset, .unset] [])) _
      refine XS.bipush X0.here hx rfl (hb hby d1_8) ?_
      show Steps p.tables e below (s₁.setTop (mkF m 10 #[.val (.int p0), .val (.int p1), .val (.int p2), .unset, .unset, .unset] [(.int (17 : Int32))])) _
      refine st2 _ ?_
      show Steps p.tables e below (T2.setTop (mkF m 12 #[.val (.int p0), .val (.int p1), .val (.int p2), .unset, .unset, .unset] [(.ref b2)])) _
      refine XS.dup X2.here hx rfl (hb hby d1_12) rfl rfl ?_
      show Steps p.tables e below (T2.setTop (mkF m 13 #[.val (.int p0), .val (.int p1), .val (.int p2), .unset, .unset, .unset] [(.ref b2), (.ref b2)])) _
      refine XS.iconst X2.here hx rfl (hb hby d1_13) ?_
      show Steps p.tables e below (T2.setTop (mkF m 14 #[.val (.int p0), .val (.int p1), .val (.int p2), .unset, .unset, .unset] [(.int (0 : Int32)), (.ref b2), (.ref b2)])) _
      refine X2.ldcI hx hown (mvT hZ (hw _ (List.mem_of_getElem? (i := 5) rfl))) (g := (mkF m 14 #[.val (.int p0), .val (.int p1), .val (.int p2), .unset, .unset, .unset] [(.int (0 : Int32)), (.ref b2), (.ref b2)])) rfl (hb hby d1_14) ?_
      show Steps p.tables e below (T2.setTop (mkF m 16 #[.val (.int p0), .val (.int p1), .val (.int p2), .unset, .unset, .unset] [(.int (-2147483648 : Int32)), (.int (0 : Int32)), (.ref b2), (.ref b2)])) _
      refine st4 _ ?_
      show Steps p.tables e below (T4.setTop (mkF m 17 #[.val (.int p0), .val (.int p1), .val (.int p2), .unset, .unset, .unset] [(.ref b2)])) _
      refine XS.dup X4.here hx rfl (hb hby d1_17) rfl rfl ?_
      show Steps p.tables e below (T4.setTop (mkF m 18 #[.val (.int p0), .val (.int p1), .val (.int p2), .unset, .unset, .unset] [(.ref b2), (.ref b2)])) _
      refine XS.iconst X4.here hx rfl (hb hby d1_18) ?_
      show Steps p.tables e below (T4.setTop (mkF m 19 #[.val (.int p0), .val (.int p1), .val (.int p2), .unset, .unset, .unset] [(.int (1 : Int32)), (.ref b2), (.ref b2)])) _
      refine XS.iconst X4.here hx rfl (hb hby d1_19) ?_
      show Steps p.tables e below (T4.setTop (mkF m 20 #[.val (.int p0), .val (.int p1), .val (.int p2), .unset, .unset, .unset] [(.int (0 : Int32)), (.int (1 : Int32)), (.ref b2), (.ref b2)])) _
      refine st6 _ ?_
      show Steps p.tables e below (T6.setTop (mkF m 21 #[.val (.int p0), .val (.int p1), .val (.int p2), .unset, .unset, .unset] [(.ref b2)])) _
      refine XS.dup X6.here hx rfl (hb hby d1_21) rfl rfl ?_
      show Steps p.tables e below (T6.setTop (mkF m 22 #[.val (.int p0), .val (.int p1), .val (.int p2), .unset, .unset, .unset] [(.ref b2), (.ref b2)])) _
      refine XS.iconst X6.here hx rfl (hb hby d1_22) ?_
      show Steps p.tables e below (T6.setTop (mkF m 23 #[.val (.int p0), .val (.int p1), .val (.int p2), .unset, .unset, .unset] [(.int (2 : Int32)), (.ref b2), (.ref b2)])) _
      refine XS.bipush X6.here hx rfl (hb hby d1_23) ?_
      show Steps p.tables e below (T6.setTop (mkF m 25 #[.val (.int p0), .val (.int p1), .val (.int p2), .unset, .unset, .unset] [(.int (9 : Int32)), (.int (2 : Int32)), (.ref b2), (.ref b2)])) _
      refine st8 _ ?_
      show Steps p.tables e below (T8.setTop (mkF m 26 #[.val (.int p0), .val (.int p1), .val (.int p2), .unset, .unset, .unset] [(.ref b2)])) _
      refine XS.dup X8.here hx rfl (hb hby d1_26) rfl rfl ?_
      show Steps p.tables e below (T8.setTop (mkF m 27 #[.val (.int p0), .val (.int p1), .val (.int p2), .unset, .unset, .unset] [(.ref b2), (.ref b2)])) _
      refine XS.iconst X8.here hx rfl (hb hby d1_27) ?_
      show Steps p.tables e below (T8.setTop (mkF m 28 #[.val (.int p0), .val (.int p1), .val (.int p2), .unset, .unset, .unset] [(.int (3 : Int32)), (.ref b2), (.ref b2)])) _
      refine XS.bipush X8.here hx rfl (hb hby d1_28) ?_
      show Steps p.tables e below (T8.setTop (mkF m 30 #[.val (.int p0), .val (.int p1), .val (.int p2), .unset, .unset, .unset] [(.int (10 : Int32)), (.int (3 : Int32)), (.ref b2), (.ref b2)])) _
      refine st10 _ ?_
      show Steps p.tables e below (T10.setTop (mkF m 31 #[.val (.int p0), .val (.int p1), .val (.int p2), .unset, .unset, .unset] [(.ref b2)])) _
      refine XS.dup X10.here hx rfl (hb hby d1_31) rfl rfl ?_
      show Steps p.tables e below (T10.setTop (mkF m 32 #[.val (.int p0), .val (.int p1), .val (.int p2), .unset, .unset, .unset] [(.ref b2), (.ref b2)])) _
      refine XS.iconst X10.here hx rfl (hb hby d1_32) ?_
      show Steps p.tables e below (T10.setTop (mkF m 33 #[.val (.int p0), .val (.int p1), .val (.int p2), .unset, .unset, .unset] [(.int (4 : Int32)), (.ref b2), (.ref b2)])) _
      refine XS.bipush X10.here hx rfl (hb hby d1_33) ?_
      show Steps p.tables e below (T10.setTop (mkF m 35 #[.val (.int p0), .val (.int p1), .val (.int p2), .unset, .unset, .unset] [(.int (13 : Int32)), (.int (4 : Int32)), (.ref b2), (.ref b2)])) _
      refine st12 _ ?_
      show Steps p.tables e below (T12.setTop (mkF m 36 #[.val (.int p0), .val (.int p1), .val (.int p2), .unset, .unset, .unset] [(.ref b2)])) _
      refine XS.dup X12.here hx rfl (hb hby d1_36) rfl rfl ?_
      show Steps p.tables e below (T12.setTop (mkF m 37 #[.val (.int p0), .val (.int p1), .val (.int p2), .unset, .unset, .unset] [(.ref b2), (.ref b2)])) _
      refine XS.iconst X12.here hx rfl (hb hby d1_37) ?_
      show Steps p.tables e below (T12.setTop (mkF m 38 #[.val (.int p0), .val (.int p1), .val (.int p2), .unset, .unset, .unset] [(.int (5 : Int32)), (.ref b2), (.ref b2)])) _
      refine XS.bipush X12.here hx rfl (hb hby d1_38) ?_
      show Steps p.tables e below (T12.setTop (mkF m 40 #[.val (.int p0), .val (.int p1), .val (.int p2), .unset, .unset, .unset] [(.int (32 : Int32)), (.int (5 : Int32)), (.ref b2), (.ref b2)])) _
      refine st14 _ ?_
      show Steps p.tables e below (T14.setTop (mkF m 41 #[.val (.int p0), .val (.int p1), .val (.int p2), .unset, .unset, .unset] [(.ref b2)])) _
      refine XS.dup X14.here hx rfl (hb hby d1_41) rfl rfl ?_
      show Steps p.tables e below (T14.setTop (mkF m 42 #[.val (.int p0), .val (.int p1), .val (.int p2), .unset, .unset, .unset] [(.ref b2), (.ref b2)])) _
      refine XS.bipush X14.here hx rfl (hb hby d1_42) ?_
      show Steps p.tables e below (T14.setTop (mkF m 44 #[.val (.int p0), .val (.int p1), .val (.int p2), .unset, .unset, .unset] [(.int (6 : Int32)), (.ref b2), (.ref b2)])) _
      refine X14.ldcI hx hown (mvT hZ (hw _ (List.mem_of_getElem? (i := 6) rfl))) (g := (mkF m 44 #[.val (.int p0), .val (.int p1), .val (.int p2), .unset, .unset, .unset] [(.int (6 : Int32)), (.ref b2), (.ref b2)])) rfl (hb hby d1_44) ?_
      show Steps p.tables e below (T14.setTop (mkF m 46 #[.val (.int p0), .val (.int p1), .val (.int p2), .unset, .unset, .unset] [(.int (55295 : Int32)), (.int (6 : Int32)), (.ref b2), (.ref b2)])) _
      refine st16 _ ?_
      show Steps p.tables e below (T16.setTop (mkF m 47 #[.val (.int p0), .val (.int p1), .val (.int p2), .unset, .unset, .unset] [(.ref b2)])) _
      refine XS.dup X16.here hx rfl (hb hby d1_47) rfl rfl ?_
      show Steps p.tables e below (T16.setTop (mkF m 48 #[.val (.int p0), .val (.int p1), .val (.int p2), .unset, .unset, .unset] [(.ref b2), (.ref b2)])) _
      refine XS.bipush X16.here hx rfl (hb hby d1_48) ?_
      show Steps p.tables e below (T16.setTop (mkF m 50 #[.val (.int p0), .val (.int p1), .val (.int p2), .unset, .unset, .unset] [(.int (7 : Int32)), (.ref b2), (.ref b2)])) _
      refine X16.ldcI hx hown (mvT hZ (hw _ (List.mem_of_getElem? (i := 7) rfl))) (g := (mkF m 50 #[.val (.int p0), .val (.int p1), .val (.int p2), .unset, .unset, .unset] [(.int (7 : Int32)), (.ref b2), (.ref b2)])) rfl (hb hby d1_50) ?_
      show Steps p.tables e below (T16.setTop (mkF m 52 #[.val (.int p0), .val (.int p1), .val (.int p2), .unset, .unset, .unset] [(.int (55296 : Int32)), (.int (7 : Int32)), (.ref b2), (.ref b2)])) _
      refine st18 _ ?_
      show Steps p.tables e below (T18.setTop (mkF m 53 #[.val (.int p0), .val (.int p1), .val (.int p2), .unset, .unset, .unset] [(.ref b2)])) _
      refine XS.dup X18.here hx rfl (hb hby d1_53) rfl rfl ?_
      show Steps p.tables e below (T18.setTop (mkF m 54 #[.val (.int p0), .val (.int p1), .val (.int p2), .unset, .unset, .unset] [(.ref b2), (.ref b2)])) _
      refine XS.bipush X18.here hx rfl (hb hby d1_54) ?_
      show Steps p.tables e below (T18.setTop (mkF m 56 #[.val (.int p0), .val (.int p1), .val (.int p2), .unset, .unset, .unset] [(.int (8 : Int32)), (.ref b2), (.ref b2)])) _
      refine X18.ldcI hx hown (mvT hZ (hw _ (List.mem_of_getElem? (i := 8) rfl))) (g := (mkF m 56 #[.val (.int p0), .val (.int p1), .val (.int p2), .unset, .unset, .unset] [(.int (8 : Int32)), (.ref b2), (.ref b2)])) rfl (hb hby d1_56) ?_
      show Steps p.tables e below (T18.setTop (mkF m 58 #[.val (.int p0), .val (.int p1), .val (.int p2), .unset, .unset, .unset] [(.int (57343 : Int32)), (.int (8 : Int32)), (.ref b2), (.ref b2)])) _
      refine st20 _ ?_
      show Steps p.tables e below (T20.setTop (mkF m 59 #[.val (.int p0), .val (.int p1), .val (.int p2), .unset, .unset, .unset] [(.ref b2)])) _
      refine XS.dup X20.here hx rfl (hb hby d1_59) rfl rfl ?_
      show Steps p.tables e below (T20.setTop (mkF m 60 #[.val (.int p0), .val (.int p1), .val (.int p2), .unset, .unset, .unset] [(.ref b2), (.ref b2)])) _
      refine XS.bipush X20.here hx rfl (hb hby d1_60) ?_
      show Steps p.tables e below (T20.setTop (mkF m 62 #[.val (.int p0), .val (.int p1), .val (.int p2), .unset, .unset, .unset] [(.int (9 : Int32)), (.ref b2), (.ref b2)])) _
      refine X20.ldcI hx hown (mvT hZ (hw _ (List.mem_of_getElem? (i := 9) rfl))) (g := (mkF m 62 #[.val (.int p0), .val (.int p1), .val (.int p2), .unset, .unset, .unset] [(.int (9 : Int32)), (.ref b2), (.ref b2)])) rfl (hb hby d1_62) ?_
      show Steps p.tables e below (T20.setTop (mkF m 64 #[.val (.int p0), .val (.int p1), .val (.int p2), .unset, .unset, .unset] [(.int (57344 : Int32)), (.int (9 : Int32)), (.ref b2), (.ref b2)])) _
      refine st22 _ ?_
      show Steps p.tables e below (T22.setTop (mkF m 65 #[.val (.int p0), .val (.int p1), .val (.int p2), .unset, .unset, .unset] [(.ref b2)])) _
      refine XS.dup X22.here hx rfl (hb hby d1_65) rfl rfl ?_
      show Steps p.tables e below (T22.setTop (mkF m 66 #[.val (.int p0), .val (.int p1), .val (.int p2), .unset, .unset, .unset] [(.ref b2), (.ref b2)])) _
      refine XS.bipush X22.here hx rfl (hb hby d1_66) ?_
      show Steps p.tables e below (T22.setTop (mkF m 68 #[.val (.int p0), .val (.int p1), .val (.int p2), .unset, .unset, .unset] [(.int (10 : Int32)), (.ref b2), (.ref b2)])) _
      refine X22.ldcI hx hown (mvT hZ (hw _ (List.mem_of_getElem? (i := 10) rfl))) (g := (mkF m 68 #[.val (.int p0), .val (.int p1), .val (.int p2), .unset, .unset, .unset] [(.int (10 : Int32)), (.ref b2), (.ref b2)])) rfl (hb hby d1_68) ?_
      show Steps p.tables e below (T22.setTop (mkF m 70 #[.val (.int p0), .val (.int p1), .val (.int p2), .unset, .unset, .unset] [(.int (65533 : Int32)), (.int (10 : Int32)), (.ref b2), (.ref b2)])) _
      refine st24 _ ?_
      show Steps p.tables e below (T24.setTop (mkF m 71 #[.val (.int p0), .val (.int p1), .val (.int p2), .unset, .unset, .unset] [(.ref b2)])) _
      refine XS.dup X24.here hx rfl (hb hby d1_71) rfl rfl ?_
      show Steps p.tables e below (T24.setTop (mkF m 72 #[.val (.int p0), .val (.int p1), .val (.int p2), .unset, .unset, .unset] [(.ref b2), (.ref b2)])) _
      refine XS.bipush X24.here hx rfl (hb hby d1_72) ?_
      show Steps p.tables e below (T24.setTop (mkF m 74 #[.val (.int p0), .val (.int p1), .val (.int p2), .unset, .unset, .unset] [(.int (11 : Int32)), (.ref b2), (.ref b2)])) _
      refine X24.ldcI hx hown (mvT hZ (hw _ (List.mem_of_getElem? (i := 11) rfl))) (g := (mkF m 74 #[.val (.int p0), .val (.int p1), .val (.int p2), .unset, .unset, .unset] [(.int (11 : Int32)), (.ref b2), (.ref b2)])) rfl (hb hby d1_74) ?_
      show Steps p.tables e below (T24.setTop (mkF m 76 #[.val (.int p0), .val (.int p1), .val (.int p2), .unset, .unset, .unset] [(.int (65534 : Int32)), (.int (11 : Int32)), (.ref b2), (.ref b2)])) _
      refine st26 _ ?_
      show Steps p.tables e below (T26.setTop (mkF m 77 #[.val (.int p0), .val (.int p1), .val (.int p2), .unset, .unset, .unset] [(.ref b2)])) _
      refine XS.dup X26.here hx rfl (hb hby d1_77) rfl rfl ?_
      show Steps p.tables e below (T26.setTop (mkF m 78 #[.val (.int p0), .val (.int p1), .val (.int p2), .unset, .unset, .unset] [(.ref b2), (.ref b2)])) _
      refine XS.bipush X26.here hx rfl (hb hby d1_78) ?_
      show Steps p.tables e below (T26.setTop (mkF m 80 #[.val (.int p0), .val (.int p1), .val (.int p2), .unset, .unset, .unset] [(.int (12 : Int32)), (.ref b2), (.ref b2)])) _
      refine X26.ldcI hx hown (mvT hZ (hw _ (List.mem_of_getElem? (i := 12) rfl))) (g := (mkF m 80 #[.val (.int p0), .val (.int p1), .val (.int p2), .unset, .unset, .unset] [(.int (12 : Int32)), (.ref b2), (.ref b2)])) rfl (hb hby d1_80) ?_
      show Steps p.tables e below (T26.setTop (mkF m 82 #[.val (.int p0), .val (.int p1), .val (.int p2), .unset, .unset, .unset] [(.int (65535 : Int32)), (.int (12 : Int32)), (.ref b2), (.ref b2)])) _
      refine st28 _ ?_
      show Steps p.tables e below (T28.setTop (mkF m 83 #[.val (.int p0), .val (.int p1), .val (.int p2), .unset, .unset, .unset] [(.ref b2)])) _
      refine XS.dup X28.here hx rfl (hb hby d1_83) rfl rfl ?_
      show Steps p.tables e below (T28.setTop (mkF m 84 #[.val (.int p0), .val (.int p1), .val (.int p2), .unset, .unset, .unset] [(.ref b2), (.ref b2)])) _
      refine XS.bipush X28.here hx rfl (hb hby d1_84) ?_
      show Steps p.tables e below (T28.setTop (mkF m 86 #[.val (.int p0), .val (.int p1), .val (.int p2), .unset, .unset, .unset] [(.int (13 : Int32)), (.ref b2), (.ref b2)])) _
      refine X28.ldcI hx hown (mvT hZ (hw _ (List.mem_of_getElem? (i := 13) rfl))) (g := (mkF m 86 #[.val (.int p0), .val (.int p1), .val (.int p2), .unset, .unset, .unset] [(.int (13 : Int32)), (.ref b2), (.ref b2)])) rfl (hb hby d1_86) ?_
      show Steps p.tables e below (T28.setTop (mkF m 88 #[.val (.int p0), .val (.int p1), .val (.int p2), .unset, .unset, .unset] [(.int (65536 : Int32)), (.int (13 : Int32)), (.ref b2), (.ref b2)])) _
      refine st30 _ ?_
      show Steps p.tables e below (T30.setTop (mkF m 89 #[.val (.int p0), .val (.int p1), .val (.int p2), .unset, .unset, .unset] [(.ref b2)])) _
      refine XS.dup X30.here hx rfl (hb hby d1_89) rfl rfl ?_
      show Steps p.tables e below (T30.setTop (mkF m 90 #[.val (.int p0), .val (.int p1), .val (.int p2), .unset, .unset, .unset] [(.ref b2), (.ref b2)])) _
      refine XS.bipush X30.here hx rfl (hb hby d1_90) ?_
      show Steps p.tables e below (T30.setTop (mkF m 92 #[.val (.int p0), .val (.int p1), .val (.int p2), .unset, .unset, .unset] [(.int (14 : Int32)), (.ref b2), (.ref b2)])) _
      refine X30.ldcI hx hown (mvT hZ (hw _ (List.mem_of_getElem? (i := 14) rfl))) (g := (mkF m 92 #[.val (.int p0), .val (.int p1), .val (.int p2), .unset, .unset, .unset] [(.int (14 : Int32)), (.ref b2), (.ref b2)])) rfl (hb hby d1_92) ?_
      show Steps p.tables e below (T30.setTop (mkF m 94 #[.val (.int p0), .val (.int p1), .val (.int p2), .unset, .unset, .unset] [(.int (1114111 : Int32)), (.int (14 : Int32)), (.ref b2), (.ref b2)])) _
      refine st32 _ ?_
      show Steps p.tables e below (T32.setTop (mkF m 95 #[.val (.int p0), .val (.int p1), .val (.int p2), .unset, .unset, .unset] [(.ref b2)])) _
      refine XS.dup X32.here hx rfl (hb hby d1_95) rfl rfl ?_
      show Steps p.tables e below (T32.setTop (mkF m 96 #[.val (.int p0), .val (.int p1), .val (.int p2), .unset, .unset, .unset] [(.ref b2), (.ref b2)])) _
      refine XS.bipush X32.here hx rfl (hb hby d1_96) ?_
      show Steps p.tables e below (T32.setTop (mkF m 98 #[.val (.int p0), .val (.int p1), .val (.int p2), .unset, .unset, .unset] [(.int (15 : Int32)), (.ref b2), (.ref b2)])) _
      refine X32.ldcI hx hown (mvT hZ (hw _ (List.mem_of_getElem? (i := 15) rfl))) (g := (mkF m 98 #[.val (.int p0), .val (.int p1), .val (.int p2), .unset, .unset, .unset] [(.int (15 : Int32)), (.ref b2), (.ref b2)])) rfl (hb hby d1_98) ?_
      show Steps p.tables e below (T32.setTop (mkF m 100 #[.val (.int p0), .val (.int p1), .val (.int p2), .unset, .unset, .unset] [(.int (1114112 : Int32)), (.int (15 : Int32)), (.ref b2), (.ref b2)])) _
      refine st34 _ ?_
      show Steps p.tables e below (T34.setTop (mkF m 101 #[.val (.int p0), .val (.int p1), .val (.int p2), .unset, .unset, .unset] [(.ref b2)])) _
      refine XS.dup X34.here hx rfl (hb hby d1_101) rfl rfl ?_
      show Steps p.tables e below (T34.setTop (mkF m 102 #[.val (.int p0), .val (.int p1), .val (.int p2), .unset, .unset, .unset] [(.ref b2), (.ref b2)])) _
      refine XS.bipush X34.here hx rfl (hb hby d1_102) ?_
      show Steps p.tables e below (T34.setTop (mkF m 104 #[.val (.int p0), .val (.int p1), .val (.int p2), .unset, .unset, .unset] [(.int (16 : Int32)), (.ref b2), (.ref b2)])) _
      refine X34.ldcI hx hown (mvT hZ (hw _ (List.mem_of_getElem? (i := 16) rfl))) (g := (mkF m 104 #[.val (.int p0), .val (.int p1), .val (.int p2), .unset, .unset, .unset] [(.int (16 : Int32)), (.ref b2), (.ref b2)])) rfl (hb hby d1_104) ?_
      show Steps p.tables e below (T34.setTop (mkF m 106 #[.val (.int p0), .val (.int p1), .val (.int p2), .unset, .unset, .unset] [(.int (2147483647 : Int32)), (.int (16 : Int32)), (.ref b2), (.ref b2)])) _
      refine st36 _ ?_
      show Steps p.tables e below (T36.setTop (mkF m 107 #[.val (.int p0), .val (.int p1), .val (.int p2), .unset, .unset, .unset] [(.ref b2)])) _
      refine XS.astoreN X36.here hx rfl (hb hby d1_107) rfl rfl (l' := #[.val (.int p0), .val (.int p1), .val (.int p2), .val (.ref b2), .unset, .unset]) rfl ?_
      show Steps p.tables e below (T36.setTop (mkF m 108 #[.val (.int p0), .val (.int p1), .val (.int p2), .val (.ref b2), .unset, .unset] [])) _
      refine XS.aloadN X36.here hx rfl (hb hby d1_108) rfl rfl ?_
      show Steps p.tables e below (T36.setTop (mkF m 109 #[.val (.int p0), .val (.int p1), .val (.int p2), .val (.ref b2), .unset, .unset] [(.ref b2)])) _
      refine XS.iloadN X36.here hx rfl (hb hby d1_109) rfl ?_
      show Steps p.tables e below (T36.setTop (mkF m 110 #[.val (.int p0), .val (.int p1), .val (.int p2), .val (.ref b2), .unset, .unset] [(.int p1), (.ref b2)])) _
      refine XS.iconst X36.here hx rfl (hb hby d1_110) ?_
      show Steps p.tables e below (T36.setTop (mkF m 111 #[.val (.int p0), .val (.int p1), .val (.int p2), .val (.ref b2), .unset, .unset] [(.int (1 : Int32)), (.int p1), (.ref b2)])) _
      refine XS.iushr X36.here hx rfl (hb hby d1_111) rfl ?_
      show Steps p.tables e below (T36.setTop (mkF m 112 #[.val (.int p0), .val (.int p1), .val (.int p2), .val (.ref b2), .unset, .unset] [(.int ((p1.toUInt32 >>> ((1 : Int32) &&& 31).toUInt32).toInt32)), (.ref b2)])) _
      refine XS.aloadN X36.here hx rfl (hb hby d1_112) rfl rfl ?_
      show Steps p.tables e below (T36.setTop (mkF m 113 #[.val (.int p0), .val (.int p1), .val (.int p2), .val (.ref b2), .unset, .unset] [(.ref b2), (.int ((p1.toUInt32 >>> ((1 : Int32) &&& 31).toUInt32).toInt32)), (.ref b2)])) _
      refine X36.arraylength hx (by rw [e36]; exact Ar37.1) (State.isArrayOf_alike hZ.alike Ar37.2.1) (g := (mkF m 113 #[.val (.int p0), .val (.int p1), .val (.int p2), .val (.ref b2), .unset, .unset] [(.ref b2), (.int ((p1.toUInt32 >>> ((1 : Int32) &&& 31).toUInt32).toInt32)), (.ref b2)])) rfl rfl (hb hby d1_113) _ ?_
      rw [len_of S37 Nn37]
      show Steps p.tables e below (T36.setTop (mkF m 114 #[.val (.int p0), .val (.int p1), .val (.int p2), .val (.ref b2), .unset, .unset] [(.int (17 : Int32)), (.int ((p1.toUInt32 >>> ((1 : Int32) &&& 31).toUInt32).toInt32)), (.ref b2)])) _
      refine XS.irem X36.here hx rfl (hb hby d1_114) rfl (by decide) ?_
      show Steps p.tables e below (T36.setTop (mkF m 115 #[.val (.int p0), .val (.int p1), .val (.int p2), .val (.ref b2), .unset, .unset] [(.int (((p1.toUInt32 >>> ((1 : Int32) &&& 31).toUInt32).toInt32) - (((p1.toUInt32 >>> ((1 : Int32) &&& 31).toUInt32).toInt32) / (17 : Int32)) * (17 : Int32))), (.ref b2)])) _
      refine X36.iaload hx (j := (((p1.toUInt32 >>> ((1 : Int32) &&& 31).toUInt32).toInt32) - (((p1.toUInt32 >>> ((1 : Int32) &&& 31).toUInt32).toInt32) / (17 : Int32)) * (17 : Int32))) (v := (.int (edgeAt (((p1.toUInt32 >>> ((1 : Int32) &&& 31).toUInt32).toInt32) - (((p1.toUInt32 >>> ((1 : Int32) &&& 31).toUInt32).toInt32) / (17 : Int32)) * (17 : Int32))))) (by rw [e36]; exact Ar38.1) (State.isArrayOf_alike hZ.alike Ar38.2.1) Ar38.2.2 hin38 hat38 (g := (mkF m 115 #[.val (.int p0), .val (.int p1), .val (.int p2), .val (.ref b2), .unset, .unset] [(.int (((p1.toUInt32 >>> ((1 : Int32) &&& 31).toUInt32).toInt32) - (((p1.toUInt32 >>> ((1 : Int32) &&& 31).toUInt32).toInt32) / (17 : Int32)) * (17 : Int32))), (.ref b2)])) rfl rfl (hb hby d1_115) _ ?_
      show Steps p.tables e below (T36.setTop (mkF m 116 #[.val (.int p0), .val (.int p1), .val (.int p2), .val (.ref b2), .unset, .unset] [(.int (edgeAt (((p1.toUInt32 >>> ((1 : Int32) &&& 31).toUInt32).toInt32) - (((p1.toUInt32 >>> ((1 : Int32) &&& 31).toUInt32).toInt32) / (17 : Int32)) * (17 : Int32))))])) _
      refine XS.istore X36.here hx rfl (hb hby d1_116) rfl (l' := #[.val (.int p0), .val (.int p1), .val (.int p2), .val (.ref b2), .val (.int (edgeAt (((p1.toUInt32 >>> ((1 : Int32) &&& 31).toUInt32).toInt32) - (((p1.toUInt32 >>> ((1 : Int32) &&& 31).toUInt32).toInt32) / (17 : Int32)) * (17 : Int32)))), .unset]) rfl ?_
      show Steps p.tables e below (T36.setTop (mkF m 118 #[.val (.int p0), .val (.int p1), .val (.int p2), .val (.ref b2), .val (.int (edgeAt (((p1.toUInt32 >>> ((1 : Int32) &&& 31).toUInt32).toInt32) - (((p1.toUInt32 >>> ((1 : Int32) &&& 31).toUInt32).toInt32) / (17 : Int32)) * (17 : Int32)))), .unset] [])) _
      refine XS.iloadN X36.here hx rfl (hb hby d1_118) rfl ?_
      show Steps p.tables e below (T36.setTop (mkF m 119 #[.val (.int p0), .val (.int p1), .val (.int p2), .val (.ref b2), .val (.int (edgeAt (((p1.toUInt32 >>> ((1 : Int32) &&& 31).toUInt32).toInt32) - (((p1.toUInt32 >>> ((1 : Int32) &&& 31).toUInt32).toInt32) / (17 : Int32)) * (17 : Int32)))), .unset] [(.int p2)])) _
      refine X36.ldcI hx hown (mvT hZ (hw _ (List.mem_of_getElem? (i := 16) rfl))) (g := (mkF m 119 #[.val (.int p0), .val (.int p1), .val (.int p2), .val (.ref b2), .val (.int (edgeAt (((p1.toUInt32 >>> ((1 : Int32) &&& 31).toUInt32).toInt32) - (((p1.toUInt32 >>> ((1 : Int32) &&& 31).toUInt32).toInt32) / (17 : Int32)) * (17 : Int32)))), .unset] [(.int p2)])) rfl (hb hby d1_119) ?_
      show Steps p.tables e below (T36.setTop (mkF m 121 #[.val (.int p0), .val (.int p1), .val (.int p2), .val (.ref b2), .val (.int (edgeAt (((p1.toUInt32 >>> ((1 : Int32) &&& 31).toUInt32).toInt32) - (((p1.toUInt32 >>> ((1 : Int32) &&& 31).toUInt32).toInt32) / (17 : Int32)) * (17 : Int32)))), .unset] [(.int (2147483647 : Int32)), (.int p2)])) _
      refine XS.iand X36.here hx rfl (hb hby d1_121) rfl ?_
      show Steps p.tables e below (T36.setTop (mkF m 122 #[.val (.int p0), .val (.int p1), .val (.int p2), .val (.ref b2), .val (.int (edgeAt (((p1.toUInt32 >>> ((1 : Int32) &&& 31).toUInt32).toInt32) - (((p1.toUInt32 >>> ((1 : Int32) &&& 31).toUInt32).toInt32) / (17 : Int32)) * (17 : Int32)))), .unset] [(.int (p2 &&& (2147483647 : Int32)))])) _
      refine XS.iconst X36.here hx rfl (hb hby d1_122) ?_
      show Steps p.tables e below (T36.setTop (mkF m 123 #[.val (.int p0), .val (.int p1), .val (.int p2), .val (.ref b2), .val (.int (edgeAt (((p1.toUInt32 >>> ((1 : Int32) &&& 31).toUInt32).toInt32) - (((p1.toUInt32 >>> ((1 : Int32) &&& 31).toUInt32).toInt32) / (17 : Int32)) * (17 : Int32)))), .unset] [(.int (3 : Int32)), (.int (p2 &&& (2147483647 : Int32)))])) _
      refine XS.irem X36.here hx rfl (hb hby d1_123) rfl (by decide) ?_
      show Steps p.tables e below (T36.setTop (mkF m 124 #[.val (.int p0), .val (.int p1), .val (.int p2), .val (.ref b2), .val (.int (edgeAt (((p1.toUInt32 >>> ((1 : Int32) &&& 31).toUInt32).toInt32) - (((p1.toUInt32 >>> ((1 : Int32) &&& 31).toUInt32).toInt32) / (17 : Int32)) * (17 : Int32)))), .unset] [(.int ((p2 &&& (2147483647 : Int32)) - ((p2 &&& (2147483647 : Int32)) / (3 : Int32)) * (3 : Int32)))])) _
      refine XS.iconst X36.here hx rfl (hb hby d1_124) ?_
      show Steps p.tables e below (T36.setTop (mkF m 125 #[.val (.int p0), .val (.int p1), .val (.int p2), .val (.ref b2), .val (.int (edgeAt (((p1.toUInt32 >>> ((1 : Int32) &&& 31).toUInt32).toInt32) - (((p1.toUInt32 >>> ((1 : Int32) &&& 31).toUInt32).toInt32) / (17 : Int32)) * (17 : Int32)))), .unset] [(.int (1 : Int32)), (.int ((p2 &&& (2147483647 : Int32)) - ((p2 &&& (2147483647 : Int32)) / (3 : Int32)) * (3 : Int32)))])) _
      refine XS.isub X36.here hx rfl (hb hby d1_125) rfl ?_
      show Steps p.tables e below (T36.setTop (mkF m 126 #[.val (.int p0), .val (.int p1), .val (.int p2), .val (.ref b2), .val (.int (edgeAt (((p1.toUInt32 >>> ((1 : Int32) &&& 31).toUInt32).toInt32) - (((p1.toUInt32 >>> ((1 : Int32) &&& 31).toUInt32).toInt32) / (17 : Int32)) * (17 : Int32)))), .unset] [(.int (((p2 &&& (2147483647 : Int32)) - ((p2 &&& (2147483647 : Int32)) / (3 : Int32)) * (3 : Int32)) - (1 : Int32)))])) _
      refine XS.istore X36.here hx rfl (hb hby d1_126) rfl (l' := #[.val (.int p0), .val (.int p1), .val (.int p2), .val (.ref b2), .val (.int (edgeAt (((p1.toUInt32 >>> ((1 : Int32) &&& 31).toUInt32).toInt32) - (((p1.toUInt32 >>> ((1 : Int32) &&& 31).toUInt32).toInt32) / (17 : Int32)) * (17 : Int32)))), .val (.int (((p2 &&& (2147483647 : Int32)) - ((p2 &&& (2147483647 : Int32)) / (3 : Int32)) * (3 : Int32)) - (1 : Int32)))]) rfl ?_
      show Steps p.tables e below (T36.setTop (mkF m 128 #[.val (.int p0), .val (.int p1), .val (.int p2), .val (.ref b2), .val (.int (edgeAt (((p1.toUInt32 >>> ((1 : Int32) &&& 31).toUInt32).toInt32) - (((p1.toUInt32 >>> ((1 : Int32) &&& 31).toUInt32).toInt32) / (17 : Int32)) * (17 : Int32)))), .val (.int (((p2 &&& (2147483647 : Int32)) - ((p2 &&& (2147483647 : Int32)) / (3 : Int32)) * (3 : Int32)) - (1 : Int32)))] [])) _
      refine XS.iload X36.here hx rfl (hb hby d1_128) rfl ?_
      show Steps p.tables e below (T36.setTop (mkF m 130 #[.val (.int p0), .val (.int p1), .val (.int p2), .val (.ref b2), .val (.int (edgeAt (((p1.toUInt32 >>> ((1 : Int32) &&& 31).toUInt32).toInt32) - (((p1.toUInt32 >>> ((1 : Int32) &&& 31).toUInt32).toInt32) / (17 : Int32)) * (17 : Int32)))), .val (.int (((p2 &&& (2147483647 : Int32)) - ((p2 &&& (2147483647 : Int32)) / (3 : Int32)) * (3 : Int32)) - (1 : Int32)))] [(.int (edgeAt (((p1.toUInt32 >>> ((1 : Int32) &&& 31).toUInt32).toInt32) - (((p1.toUInt32 >>> ((1 : Int32) &&& 31).toUInt32).toInt32) / (17 : Int32)) * (17 : Int32))))])) _
      refine XS.iload X36.here hx rfl (hb hby d1_130) rfl ?_
      show Steps p.tables e below (T36.setTop (mkF m 132 #[.val (.int p0), .val (.int p1), .val (.int p2), .val (.ref b2), .val (.int (edgeAt (((p1.toUInt32 >>> ((1 : Int32) &&& 31).toUInt32).toInt32) - (((p1.toUInt32 >>> ((1 : Int32) &&& 31).toUInt32).toInt32) / (17 : Int32)) * (17 : Int32)))), .val (.int (((p2 &&& (2147483647 : Int32)) - ((p2 &&& (2147483647 : Int32)) / (3 : Int32)) * (3 : Int32)) - (1 : Int32)))] [(.int (((p2 &&& (2147483647 : Int32)) - ((p2 &&& (2147483647 : Int32)) / (3 : Int32)) * (3 : Int32)) - (1 : Int32))), (.int (edgeAt (((p1.toUInt32 >>> ((1 : Int32) &&& 31).toUInt32).toInt32) - (((p1.toUInt32 >>> ((1 : Int32) &&& 31).toUInt32).toInt32) / (17 : Int32)) * (17 : Int32))))])) _
      refine XS.iadd X36.here hx rfl (hb hby d1_132) rfl ?_
      show Steps p.tables e below (T36.setTop (mkF m 133 #[.val (.int p0), .val (.int p1), .val (.int p2), .val (.ref b2), .val (.int (edgeAt (((p1.toUInt32 >>> ((1 : Int32) &&& 31).toUInt32).toInt32) - (((p1.toUInt32 >>> ((1 : Int32) &&& 31).toUInt32).toInt32) / (17 : Int32)) * (17 : Int32)))), .val (.int (((p2 &&& (2147483647 : Int32)) - ((p2 &&& (2147483647 : Int32)) / (3 : Int32)) * (3 : Int32)) - (1 : Int32)))] [(.int ((edgeAt (((p1.toUInt32 >>> ((1 : Int32) &&& 31).toUInt32).toInt32) - (((p1.toUInt32 >>> ((1 : Int32) &&& 31).toUInt32).toInt32) / (17 : Int32)) * (17 : Int32))) + (((p2 &&& (2147483647 : Int32)) - ((p2 &&& (2147483647 : Int32)) / (3 : Int32)) * (3 : Int32)) - (1 : Int32))))])) _
      exact retI X36 hx Bd.returns (hb hby d1_133) hr
    · show Q1 p0 p1 p2 h0 n0 _ T36.heap _
      rw [e36]
      exact ⟨(by rw [pickV, if_neg hc3]), N36, K36⟩
theorem d2_0 : decode prog_143_method_6_code 0 = .ok (.iload_n 0, 1) := by decide +kernel
theorem d2_1 : decode prog_143_method_6_code 1 = .ok (.bipush 9, 2) := by decide +kernel
theorem d2_3 : decode prog_143_method_6_code 3 = .ok (.if_icmp .eq 51, 3) := by decide +kernel
theorem d2_6 : decode prog_143_method_6_code 6 = .ok (.iload_n 0, 1) := by decide +kernel
theorem d2_7 : decode prog_143_method_6_code 7 = .ok (.bipush 10, 2) := by decide +kernel
theorem d2_9 : decode prog_143_method_6_code 9 = .ok (.if_icmp .eq 45, 3) := by decide +kernel
theorem d2_12 : decode prog_143_method_6_code 12 = .ok (.iload_n 0, 1) := by decide +kernel
theorem d2_13 : decode prog_143_method_6_code 13 = .ok (.bipush 13, 2) := by decide +kernel
theorem d2_15 : decode prog_143_method_6_code 15 = .ok (.if_icmp .eq 39, 3) := by decide +kernel
theorem d2_18 : decode prog_143_method_6_code 18 = .ok (.bipush 32, 2) := by decide +kernel
theorem d2_20 : decode prog_143_method_6_code 20 = .ok (.iload_n 0, 1) := by decide +kernel
theorem d2_21 : decode prog_143_method_6_code 21 = .ok (.if_icmp .gt 9, 3) := by decide +kernel
theorem d2_24 : decode prog_143_method_6_code 24 = .ok (.iload_n 0, 1) := by decide +kernel
theorem d2_25 : decode prog_143_method_6_code 25 = .ok (.ldc 27, 2) := by decide +kernel
theorem d2_27 : decode prog_143_method_6_code 27 = .ok (.if_icmp .le 27, 3) := by decide +kernel
theorem d2_30 : decode prog_143_method_6_code 30 = .ok (.ldc 28, 2) := by decide +kernel
theorem d2_32 : decode prog_143_method_6_code 32 = .ok (.iload_n 0, 1) := by decide +kernel
theorem d2_33 : decode prog_143_method_6_code 33 = .ok (.if_icmp .gt 9, 3) := by decide +kernel
theorem d2_36 : decode prog_143_method_6_code 36 = .ok (.iload_n 0, 1) := by decide +kernel
theorem d2_37 : decode prog_143_method_6_code 37 = .ok (.ldc 29, 2) := by decide +kernel
theorem d2_39 : decode prog_143_method_6_code 39 = .ok (.if_icmp .le 15, 3) := by decide +kernel
theorem d2_42 : decode prog_143_method_6_code 42 = .ok (.ldc 30, 2) := by decide +kernel
theorem d2_44 : decode prog_143_method_6_code 44 = .ok (.iload_n 0, 1) := by decide +kernel
theorem d2_45 : decode prog_143_method_6_code 45 = .ok (.if_icmp .gt 13, 3) := by decide +kernel
theorem d2_48 : decode prog_143_method_6_code 48 = .ok (.iload_n 0, 1) := by decide +kernel
theorem d2_49 : decode prog_143_method_6_code 49 = .ok (.ldc 31, 2) := by decide +kernel
theorem d2_51 : decode prog_143_method_6_code 51 = .ok (.if_icmp .gt 7, 3) := by decide +kernel
theorem d2_54 : decode prog_143_method_6_code 54 = .ok (.iconst 1, 1) := by decide +kernel
theorem d2_55 : decode prog_143_method_6_code 55 = .ok (.goto 4, 3) := by decide +kernel
theorem d2_58 : decode prog_143_method_6_code 58 = .ok (.iconst 0, 1) := by decide +kernel
theorem d2_59 : decode prog_143_method_6_code 59 = .ok (.ireturn, 1) := by decide +kernel
theorem pn_1 : plainName "com/example/inked_rows/inkedrows/xml/XmlNames" = true := by first | (simp [plainName, overriddenIn]; done) | decide +kernel
theorem ef_2 (m : MethodId) (p0 : Int32) : entryFrame m #[(.int p0)] 1 = mkF m 0 #[.val (.int p0)] [] := by first | (simp [entryFrame, mkF, argsToLocals, Value.category]; done) | rfl
def Q2 (p0 : Int32) (h0 : Heap) (n0 : Nat) (v : Option Value) (h : Heap) (L : List Loc) : Prop := v = some (.int (isV p0)) ∧ Fr n0 L ∧ h = h0
set_option maxRecDepth 65536 in
set_option maxHeartbeats 40000000 in
theorem rm2 (l : Launch) (Z : State) (a0 : Array Value) (hw : ∀ d ∈ tables_1, d.before a0 Z = true) (ws : List Jvm.Cond) (p0 : Int32) (h0 : Heap) (n0 : Nat) (Z0 : n0 ≤ h0.size)  :
    MetFree l (⟨"com/example/inked_rows/inkedrows/xml/XmlNames", "isXmlChar", "(I)Z"⟩ : MethodName) (head1 (Jvm.Cond.code (⟨"com/example/inked_rows/inkedrows/xml/XmlNames", "isXmlChar", "(I)Z"⟩ : MethodName) prog_143_method_6_code 1 (some .boolean) :: ws) ({ frames := 0, cells := 0, slots := 0, locals := 0 } : Room)) (fun a U => a = #[(.int p0)] ∧ Z.Warmed39 U.vm ∧ U.heap = h0) (fun _ _ _ _ _ => True) (fun _ U o U' => ∃ v L, o = .returned v ∧ Q2 p0 h0 n0 v U'.heap L ∧ FrameEnd U o U' L ({ frames := 0, cells := 0, slots := 0, locals := 0 } : Room).cells ({ frames := 0, cells := 0, slots := 0, locals := 0 } : Room).slots) := by
  refine MetFree.of_bodySF (plainFor_of_name pn_1) hisR ?_
  intro p e s m args below meth c s₁ Bd hml0 hP hK
  obtain ⟨rfl, hZ, hh⟩ := hP
  have hx := Bd.exec
  have hby := Bd.bytes
  have hml : c.maxLocals = 1 := hml0
  have hown : s.vm.findClass "com/example/inked_rows/inkedrows/xml/XmlNames" = some m.cls := findClass_of_methodNamed Bd.named
  have hnm := (name_of_methodNamed Bd.named Bd.method).1
  have X0 : Stand p l e ({ frames := 0, cells := 0, slots := 0, locals := 0 } : Room) s m #[(.int p0)] below meth c s₁ [] 0 0 := Stand.of_body Bd
  have e0 : s₁.heap = h0 := by rw [← hh, Bd.state]; rfl
  have N0 := Fr.nil n0
  have pre0 : ∀ t, Steps p.tables e below (s₁.setTop (mkF m 0 #[.val (.int p0)] [])) t → Steps p.tables e below (s₁.setTop (entryFrame m #[(.int p0)] 1)) t := fun t k => castTop (ef_2 m p0) k
  have pre1 : ∀ t, Steps p.tables e below (s₁.setTop (mkF m 3 #[.val (.int p0)] [(.int (9 : Int32)), (.int p0)])) t → Steps p.tables e below (s₁.setTop (entryFrame m #[(.int p0)] 1)) t := fun t kt => pre0 t (by
      show Steps p.tables e below (s₁.setTop (mkF m 0 #[.val (.int p0)] [])) _
      refine XS.iloadN X0.here hx rfl (hb hby d2_0) rfl ?_
      show Steps p.tables e below (s₁.setTop (mkF m 1 #[.val (.int p0)] [(.int p0)])) _
      refine XS.bipush X0.here hx rfl (hb hby d2_1) ?_
      exact kt)
  by_cases hc3 : p0 = (9 : Int32)
  · obtain ⟨fs, hr, hrun, hended, hW, hsame⟩ := X0.leave (v := some (.int (1 : Int32))) (fun h => by rw [Bd.returns] at h; cases h)
    refine ⟨_, _, pre1 _ ?_, hrun, hended, _, _, rfl, ?_, ⟨_, rfl⟩, hW, hsame.mono (by decide) (by decide)⟩
    · show Steps p.tables e below (s₁.setTop (mkF m 3 #[.val (.int p0)] [(.int (9 : Int32)), (.int p0)])) _
      refine XS.icmpYes X0.here hx rfl (pc0 := 3) (pc' := 54) rfl (hb hby d2_3) rfl (teq (show p0 = (9 : Int32) from hc3)).1 (by decide) (by decide) ?_
      show Steps p.tables e below (s₁.setTop (mkF m 54 #[.val (.int p0)] [])) _
      refine XS.iconst X0.here hx rfl (hb hby d2_54) ?_
      show Steps p.tables e below (s₁.setTop (mkF m 55 #[.val (.int p0)] [(.int (1 : Int32))])) _
      refine XS.goto X0.here hx rfl (pc0 := 55) (pc' := 59) rfl (hb hby d2_55) (by decide) (by decide) ?_
      show Steps p.tables e below (s₁.setTop (mkF m 59 #[.val (.int p0)] [(.int (1 : Int32))])) _
      exact retN X0 hx (t := .boolean) Bd.returns (by simp) (hb hby d2_59) hr
    · show Q2 p0 h0 n0 _ s₁.heap _
      rw [e0]
      exact ⟨(by rw [isV, if_pos (by simp [eq_true hc3])]), N0, rfl⟩
  · have pre2 : ∀ t, Steps p.tables e below (s₁.setTop (mkF m 9 #[.val (.int p0)] [(.int (10 : Int32)), (.int p0)])) t → Steps p.tables e below (s₁.setTop (entryFrame m #[(.int p0)] 1)) t := fun t kt => pre1 t (by
        show Steps p.tables e below (s₁.setTop (mkF m 3 #[.val (.int p0)] [(.int (9 : Int32)), (.int p0)])) _
        refine XS.icmpNo X0.here hx rfl (hb hby d2_3) rfl (feq (show ¬ (p0 = (9 : Int32)) from hc3)).1 ?_
        show Steps p.tables e below (s₁.setTop (mkF m 6 #[.val (.int p0)] [])) _
        refine XS.iloadN X0.here hx rfl (hb hby d2_6) rfl ?_
        show Steps p.tables e below (s₁.setTop (mkF m 7 #[.val (.int p0)] [(.int p0)])) _
        refine XS.bipush X0.here hx rfl (hb hby d2_7) ?_
        exact kt)
    by_cases hc9 : p0 = (10 : Int32)
    · obtain ⟨fs, hr, hrun, hended, hW, hsame⟩ := X0.leave (v := some (.int (1 : Int32))) (fun h => by rw [Bd.returns] at h; cases h)
      refine ⟨_, _, pre2 _ ?_, hrun, hended, _, _, rfl, ?_, ⟨_, rfl⟩, hW, hsame.mono (by decide) (by decide)⟩
      · show Steps p.tables e below (s₁.setTop (mkF m 9 #[.val (.int p0)] [(.int (10 : Int32)), (.int p0)])) _
        refine XS.icmpYes X0.here hx rfl (pc0 := 9) (pc' := 54) rfl (hb hby d2_9) rfl (teq (show p0 = (10 : Int32) from hc9)).1 (by decide) (by decide) ?_
        show Steps p.tables e below (s₁.setTop (mkF m 54 #[.val (.int p0)] [])) _
        refine XS.iconst X0.here hx rfl (hb hby d2_54) ?_
        show Steps p.tables e below (s₁.setTop (mkF m 55 #[.val (.int p0)] [(.int (1 : Int32))])) _
        refine XS.goto X0.here hx rfl (pc0 := 55) (pc' := 59) rfl (hb hby d2_55) (by decide) (by decide) ?_
        show Steps p.tables e below (s₁.setTop (mkF m 59 #[.val (.int p0)] [(.int (1 : Int32))])) _
        exact retN X0 hx (t := .boolean) Bd.returns (by simp) (hb hby d2_59) hr
      · show Q2 p0 h0 n0 _ s₁.heap _
        rw [e0]
        exact ⟨(by rw [isV, if_pos (by simp [eq_false hc3, eq_true hc9])]), N0, rfl⟩
    · have pre3 : ∀ t, Steps p.tables e below (s₁.setTop (mkF m 15 #[.val (.int p0)] [(.int (13 : Int32)), (.int p0)])) t → Steps p.tables e below (s₁.setTop (entryFrame m #[(.int p0)] 1)) t := fun t kt => pre2 t (by
          show Steps p.tables e below (s₁.setTop (mkF m 9 #[.val (.int p0)] [(.int (10 : Int32)), (.int p0)])) _
          refine XS.icmpNo X0.here hx rfl (hb hby d2_9) rfl (feq (show ¬ (p0 = (10 : Int32)) from hc9)).1 ?_
          show Steps p.tables e below (s₁.setTop (mkF m 12 #[.val (.int p0)] [])) _
          refine XS.iloadN X0.here hx rfl (hb hby d2_12) rfl ?_
          show Steps p.tables e below (s₁.setTop (mkF m 13 #[.val (.int p0)] [(.int p0)])) _
          refine XS.bipush X0.here hx rfl (hb hby d2_13) ?_
          exact kt)
      by_cases hc15 : p0 = (13 : Int32)
      · obtain ⟨fs, hr, hrun, hended, hW, hsame⟩ := X0.leave (v := some (.int (1 : Int32))) (fun h => by rw [Bd.returns] at h; cases h)
        refine ⟨_, _, pre3 _ ?_, hrun, hended, _, _, rfl, ?_, ⟨_, rfl⟩, hW, hsame.mono (by decide) (by decide)⟩
        · show Steps p.tables e below (s₁.setTop (mkF m 15 #[.val (.int p0)] [(.int (13 : Int32)), (.int p0)])) _
          refine XS.icmpYes X0.here hx rfl (pc0 := 15) (pc' := 54) rfl (hb hby d2_15) rfl (teq (show p0 = (13 : Int32) from hc15)).1 (by decide) (by decide) ?_
          show Steps p.tables e below (s₁.setTop (mkF m 54 #[.val (.int p0)] [])) _
          refine XS.iconst X0.here hx rfl (hb hby d2_54) ?_
          show Steps p.tables e below (s₁.setTop (mkF m 55 #[.val (.int p0)] [(.int (1 : Int32))])) _
          refine XS.goto X0.here hx rfl (pc0 := 55) (pc' := 59) rfl (hb hby d2_55) (by decide) (by decide) ?_
          show Steps p.tables e below (s₁.setTop (mkF m 59 #[.val (.int p0)] [(.int (1 : Int32))])) _
          exact retN X0 hx (t := .boolean) Bd.returns (by simp) (hb hby d2_59) hr
        · show Q2 p0 h0 n0 _ s₁.heap _
          rw [e0]
          exact ⟨(by rw [isV, if_pos (by simp [eq_false hc3, eq_false hc9, eq_true hc15])]), N0, rfl⟩
      · have pre4 : ∀ t, Steps p.tables e below (s₁.setTop (mkF m 21 #[.val (.int p0)] [(.int p0), (.int (32 : Int32))])) t → Steps p.tables e below (s₁.setTop (entryFrame m #[(.int p0)] 1)) t := fun t kt => pre3 t (by
            show Steps p.tables e below (s₁.setTop (mkF m 15 #[.val (.int p0)] [(.int (13 : Int32)), (.int p0)])) _
            refine XS.icmpNo X0.here hx rfl (hb hby d2_15) rfl (feq (show ¬ (p0 = (13 : Int32)) from hc15)).1 ?_
            show Steps p.tables e below (s₁.setTop (mkF m 18 #[.val (.int p0)] [])) _
            refine XS.bipush X0.here hx rfl (hb hby d2_18) ?_
            show Steps p.tables e below (s₁.setTop (mkF m 20 #[.val (.int p0)] [(.int (32 : Int32))])) _
            refine XS.iloadN X0.here hx rfl (hb hby d2_20) rfl ?_
            exact kt)
        by_cases hc21 : p0 < (32 : Int32)
        · have pre5 : ∀ t, Steps p.tables e below (s₁.setTop (mkF m 33 #[.val (.int p0)] [(.int p0), (.int (57344 : Int32))])) t → Steps p.tables e below (s₁.setTop (entryFrame m #[(.int p0)] 1)) t := fun t kt => pre4 t (by
              show Steps p.tables e below (s₁.setTop (mkF m 21 #[.val (.int p0)] [(.int p0), (.int (32 : Int32))])) _
              refine XS.icmpYes X0.here hx rfl (pc0 := 21) (pc' := 30) rfl (hb hby d2_21) rfl (tlt (show p0 < (32 : Int32) from hc21)).2.2.1 (by decide) (by decide) ?_
              show Steps p.tables e below (s₁.setTop (mkF m 30 #[.val (.int p0)] [])) _
              refine X0.ldcI hx hown (mvT hZ (hw _ (List.mem_of_getElem? (i := 21) rfl))) (g := (mkF m 30 #[.val (.int p0)] [])) rfl (hb hby d2_30) ?_
              show Steps p.tables e below (s₁.setTop (mkF m 32 #[.val (.int p0)] [(.int (57344 : Int32))])) _
              refine XS.iloadN X0.here hx rfl (hb hby d2_32) rfl ?_
              exact kt)
          by_cases hc33 : p0 < (57344 : Int32)
          · have pre6 : ∀ t, Steps p.tables e below (s₁.setTop (mkF m 45 #[.val (.int p0)] [(.int p0), (.int (65536 : Int32))])) t → Steps p.tables e below (s₁.setTop (entryFrame m #[(.int p0)] 1)) t := fun t kt => pre5 t (by
                show Steps p.tables e below (s₁.setTop (mkF m 33 #[.val (.int p0)] [(.int p0), (.int (57344 : Int32))])) _
                refine XS.icmpYes X0.here hx rfl (pc0 := 33) (pc' := 42) rfl (hb hby d2_33) rfl (tlt (show p0 < (57344 : Int32) from hc33)).2.2.1 (by decide) (by decide) ?_
                show Steps p.tables e below (s₁.setTop (mkF m 42 #[.val (.int p0)] [])) _
                refine X0.ldcI hx hown (mvT hZ (hw _ (List.mem_of_getElem? (i := 22) rfl))) (g := (mkF m 42 #[.val (.int p0)] [])) rfl (hb hby d2_42) ?_
                show Steps p.tables e below (s₁.setTop (mkF m 44 #[.val (.int p0)] [(.int (65536 : Int32))])) _
                refine XS.iloadN X0.here hx rfl (hb hby d2_44) rfl ?_
                exact kt)
            by_cases hc45 : p0 < (65536 : Int32)
            · obtain ⟨fs, hr, hrun, hended, hW, hsame⟩ := X0.leave (v := some (.int (0 : Int32))) (fun h => by rw [Bd.returns] at h; cases h)
              refine ⟨_, _, pre6 _ ?_, hrun, hended, _, _, rfl, ?_, ⟨_, rfl⟩, hW, hsame.mono (by decide) (by decide)⟩
              · show Steps p.tables e below (s₁.setTop (mkF m 45 #[.val (.int p0)] [(.int p0), (.int (65536 : Int32))])) _
                refine XS.icmpYes X0.here hx rfl (pc0 := 45) (pc' := 58) rfl (hb hby d2_45) rfl (tlt (show p0 < (65536 : Int32) from hc45)).2.2.1 (by decide) (by decide) ?_
                show Steps p.tables e below (s₁.setTop (mkF m 58 #[.val (.int p0)] [])) _
                refine XS.iconst X0.here hx rfl (hb hby d2_58) ?_
                show Steps p.tables e below (s₁.setTop (mkF m 59 #[.val (.int p0)] [(.int (0 : Int32))])) _
                exact retN X0 hx (t := .boolean) Bd.returns (by simp) (hb hby d2_59) hr
              · show Q2 p0 h0 n0 _ s₁.heap _
                rw [e0]
                exact ⟨(by rw [isV, if_neg (by simp [eq_false hc3, eq_false hc9, eq_false hc15, eq_true hc21, eq_true hc33, eq_true hc45])]), N0, rfl⟩
            · have pre7 : ∀ t, Steps p.tables e below (s₁.setTop (mkF m 51 #[.val (.int p0)] [(.int (1114111 : Int32)), (.int p0)])) t → Steps p.tables e below (s₁.setTop (entryFrame m #[(.int p0)] 1)) t := fun t kt => pre6 t (by
                  show Steps p.tables e below (s₁.setTop (mkF m 45 #[.val (.int p0)] [(.int p0), (.int (65536 : Int32))])) _
                  refine XS.icmpNo X0.here hx rfl (hb hby d2_45) rfl (flt (show ¬ (p0 < (65536 : Int32)) from hc45)).2.2.1 ?_
                  show Steps p.tables e below (s₁.setTop (mkF m 48 #[.val (.int p0)] [])) _
                  refine XS.iloadN X0.here hx rfl (hb hby d2_48) rfl ?_
                  show Steps p.tables e below (s₁.setTop (mkF m 49 #[.val (.int p0)] [(.int p0)])) _
                  refine X0.ldcI hx hown (mvT hZ (hw _ (List.mem_of_getElem? (i := 28) rfl))) (g := (mkF m 49 #[.val (.int p0)] [(.int p0)])) rfl (hb hby d2_49) ?_
                  exact kt)
              by_cases hc51 : (1114111 : Int32) < p0
              · obtain ⟨fs, hr, hrun, hended, hW, hsame⟩ := X0.leave (v := some (.int (0 : Int32))) (fun h => by rw [Bd.returns] at h; cases h)
                refine ⟨_, _, pre7 _ ?_, hrun, hended, _, _, rfl, ?_, ⟨_, rfl⟩, hW, hsame.mono (by decide) (by decide)⟩
                · show Steps p.tables e below (s₁.setTop (mkF m 51 #[.val (.int p0)] [(.int (1114111 : Int32)), (.int p0)])) _
                  refine XS.icmpYes X0.here hx rfl (pc0 := 51) (pc' := 58) rfl (hb hby d2_51) rfl (tlt (show (1114111 : Int32) < p0 from hc51)).2.2.1 (by decide) (by decide) ?_
                  show Steps p.tables e below (s₁.setTop (mkF m 58 #[.val (.int p0)] [])) _
                  refine XS.iconst X0.here hx rfl (hb hby d2_58) ?_
                  show Steps p.tables e below (s₁.setTop (mkF m 59 #[.val (.int p0)] [(.int (0 : Int32))])) _
                  exact retN X0 hx (t := .boolean) Bd.returns (by simp) (hb hby d2_59) hr
                · show Q2 p0 h0 n0 _ s₁.heap _
                  rw [e0]
                  exact ⟨(by rw [isV, if_neg (by simp [eq_false hc3, eq_false hc9, eq_false hc15, eq_true hc21, eq_true hc33, eq_false hc45, eq_true hc51])]), N0, rfl⟩
              · obtain ⟨fs, hr, hrun, hended, hW, hsame⟩ := X0.leave (v := some (.int (1 : Int32))) (fun h => by rw [Bd.returns] at h; cases h)
                refine ⟨_, _, pre7 _ ?_, hrun, hended, _, _, rfl, ?_, ⟨_, rfl⟩, hW, hsame.mono (by decide) (by decide)⟩
                · show Steps p.tables e below (s₁.setTop (mkF m 51 #[.val (.int p0)] [(.int (1114111 : Int32)), (.int p0)])) _
                  refine XS.icmpNo X0.here hx rfl (hb hby d2_51) rfl (flt (show ¬ ((1114111 : Int32) < p0) from hc51)).2.2.1 ?_
                  show Steps p.tables e below (s₁.setTop (mkF m 54 #[.val (.int p0)] [])) _
                  refine XS.iconst X0.here hx rfl (hb hby d2_54) ?_
                  show Steps p.tables e below (s₁.setTop (mkF m 55 #[.val (.int p0)] [(.int (1 : Int32))])) _
                  refine XS.goto X0.here hx rfl (pc0 := 55) (pc' := 59) rfl (hb hby d2_55) (by decide) (by decide) ?_
                  show Steps p.tables e below (s₁.setTop (mkF m 59 #[.val (.int p0)] [(.int (1 : Int32))])) _
                  exact retN X0 hx (t := .boolean) Bd.returns (by simp) (hb hby d2_59) hr
                · show Q2 p0 h0 n0 _ s₁.heap _
                  rw [e0]
                  exact ⟨(by rw [isV, if_pos (by simp [eq_false hc3, eq_false hc9, eq_false hc15, eq_true hc21, eq_true hc33, eq_false hc45, eq_false hc51])]), N0, rfl⟩
          · have pre8 : ∀ t, Steps p.tables e below (s₁.setTop (mkF m 39 #[.val (.int p0)] [(.int (65533 : Int32)), (.int p0)])) t → Steps p.tables e below (s₁.setTop (entryFrame m #[(.int p0)] 1)) t := fun t kt => pre5 t (by
                show Steps p.tables e below (s₁.setTop (mkF m 33 #[.val (.int p0)] [(.int p0), (.int (57344 : Int32))])) _
                refine XS.icmpNo X0.here hx rfl (hb hby d2_33) rfl (flt (show ¬ (p0 < (57344 : Int32)) from hc33)).2.2.1 ?_
                show Steps p.tables e below (s₁.setTop (mkF m 36 #[.val (.int p0)] [])) _
                refine XS.iloadN X0.here hx rfl (hb hby d2_36) rfl ?_
                show Steps p.tables e below (s₁.setTop (mkF m 37 #[.val (.int p0)] [(.int p0)])) _
                refine X0.ldcI hx hown (mvT hZ (hw _ (List.mem_of_getElem? (i := 27) rfl))) (g := (mkF m 37 #[.val (.int p0)] [(.int p0)])) rfl (hb hby d2_37) ?_
                exact kt)
            by_cases hc39 : (65533 : Int32) < p0
            · have pre9 : ∀ t, Steps p.tables e below (s₁.setTop (mkF m 45 #[.val (.int p0)] [(.int p0), (.int (65536 : Int32))])) t → Steps p.tables e below (s₁.setTop (entryFrame m #[(.int p0)] 1)) t := fun t kt => pre8 t (by
                  show Steps p.tables e below (s₁.setTop (mkF m 39 #[.val (.int p0)] [(.int (65533 : Int32)), (.int p0)])) _
                  refine XS.icmpNo X0.here hx rfl (hb hby d2_39) rfl (tlt (show (65533 : Int32) < p0 from hc39)).2.2.2 ?_
                  show Steps p.tables e below (s₁.setTop (mkF m 42 #[.val (.int p0)] [])) _
                  refine X0.ldcI hx hown (mvT hZ (hw _ (List.mem_of_getElem? (i := 22) rfl))) (g := (mkF m 42 #[.val (.int p0)] [])) rfl (hb hby d2_42) ?_
                  show Steps p.tables e below (s₁.setTop (mkF m 44 #[.val (.int p0)] [(.int (65536 : Int32))])) _
                  refine XS.iloadN X0.here hx rfl (hb hby d2_44) rfl ?_
                  exact kt)
              by_cases hc45 : p0 < (65536 : Int32)
              · obtain ⟨fs, hr, hrun, hended, hW, hsame⟩ := X0.leave (v := some (.int (0 : Int32))) (fun h => by rw [Bd.returns] at h; cases h)
                refine ⟨_, _, pre9 _ ?_, hrun, hended, _, _, rfl, ?_, ⟨_, rfl⟩, hW, hsame.mono (by decide) (by decide)⟩
                · show Steps p.tables e below (s₁.setTop (mkF m 45 #[.val (.int p0)] [(.int p0), (.int (65536 : Int32))])) _
                  refine XS.icmpYes X0.here hx rfl (pc0 := 45) (pc' := 58) rfl (hb hby d2_45) rfl (tlt (show p0 < (65536 : Int32) from hc45)).2.2.1 (by decide) (by decide) ?_
                  show Steps p.tables e below (s₁.setTop (mkF m 58 #[.val (.int p0)] [])) _
                  refine XS.iconst X0.here hx rfl (hb hby d2_58) ?_
                  show Steps p.tables e below (s₁.setTop (mkF m 59 #[.val (.int p0)] [(.int (0 : Int32))])) _
                  exact retN X0 hx (t := .boolean) Bd.returns (by simp) (hb hby d2_59) hr
                · show Q2 p0 h0 n0 _ s₁.heap _
                  rw [e0]
                  exact ⟨(by rw [isV, if_neg (by simp [eq_false hc3, eq_false hc9, eq_false hc15, eq_true hc21, eq_false hc33, eq_true hc39, eq_true hc45])]), N0, rfl⟩
              · have pre10 : ∀ t, Steps p.tables e below (s₁.setTop (mkF m 51 #[.val (.int p0)] [(.int (1114111 : Int32)), (.int p0)])) t → Steps p.tables e below (s₁.setTop (entryFrame m #[(.int p0)] 1)) t := fun t kt => pre9 t (by
                    show Steps p.tables e below (s₁.setTop (mkF m 45 #[.val (.int p0)] [(.int p0), (.int (65536 : Int32))])) _
                    refine XS.icmpNo X0.here hx rfl (hb hby d2_45) rfl (flt (show ¬ (p0 < (65536 : Int32)) from hc45)).2.2.1 ?_
                    show Steps p.tables e below (s₁.setTop (mkF m 48 #[.val (.int p0)] [])) _
                    refine XS.iloadN X0.here hx rfl (hb hby d2_48) rfl ?_
                    show Steps p.tables e below (s₁.setTop (mkF m 49 #[.val (.int p0)] [(.int p0)])) _
                    refine X0.ldcI hx hown (mvT hZ (hw _ (List.mem_of_getElem? (i := 28) rfl))) (g := (mkF m 49 #[.val (.int p0)] [(.int p0)])) rfl (hb hby d2_49) ?_
                    exact kt)
                by_cases hc51 : (1114111 : Int32) < p0
                · obtain ⟨fs, hr, hrun, hended, hW, hsame⟩ := X0.leave (v := some (.int (0 : Int32))) (fun h => by rw [Bd.returns] at h; cases h)
                  refine ⟨_, _, pre10 _ ?_, hrun, hended, _, _, rfl, ?_, ⟨_, rfl⟩, hW, hsame.mono (by decide) (by decide)⟩
                  · show Steps p.tables e below (s₁.setTop (mkF m 51 #[.val (.int p0)] [(.int (1114111 : Int32)), (.int p0)])) _
                    refine XS.icmpYes X0.here hx rfl (pc0 := 51) (pc' := 58) rfl (hb hby d2_51) rfl (tlt (show (1114111 : Int32) < p0 from hc51)).2.2.1 (by decide) (by decide) ?_
                    show Steps p.tables e below (s₁.setTop (mkF m 58 #[.val (.int p0)] [])) _
                    refine XS.iconst X0.here hx rfl (hb hby d2_58) ?_
                    show Steps p.tables e below (s₁.setTop (mkF m 59 #[.val (.int p0)] [(.int (0 : Int32))])) _
                    exact retN X0 hx (t := .boolean) Bd.returns (by simp) (hb hby d2_59) hr
                  · show Q2 p0 h0 n0 _ s₁.heap _
                    rw [e0]
                    exact ⟨(by rw [isV, if_neg (by simp [eq_false hc3, eq_false hc9, eq_false hc15, eq_true hc21, eq_false hc33, eq_true hc39, eq_false hc45, eq_true hc51])]), N0, rfl⟩
                · obtain ⟨fs, hr, hrun, hended, hW, hsame⟩ := X0.leave (v := some (.int (1 : Int32))) (fun h => by rw [Bd.returns] at h; cases h)
                  refine ⟨_, _, pre10 _ ?_, hrun, hended, _, _, rfl, ?_, ⟨_, rfl⟩, hW, hsame.mono (by decide) (by decide)⟩
                  · show Steps p.tables e below (s₁.setTop (mkF m 51 #[.val (.int p0)] [(.int (1114111 : Int32)), (.int p0)])) _
                    refine XS.icmpNo X0.here hx rfl (hb hby d2_51) rfl (flt (show ¬ ((1114111 : Int32) < p0) from hc51)).2.2.1 ?_
                    show Steps p.tables e below (s₁.setTop (mkF m 54 #[.val (.int p0)] [])) _
                    refine XS.iconst X0.here hx rfl (hb hby d2_54) ?_
                    show Steps p.tables e below (s₁.setTop (mkF m 55 #[.val (.int p0)] [(.int (1 : Int32))])) _
                    refine XS.goto X0.here hx rfl (pc0 := 55) (pc' := 59) rfl (hb hby d2_55) (by decide) (by decide) ?_
                    show Steps p.tables e below (s₁.setTop (mkF m 59 #[.val (.int p0)] [(.int (1 : Int32))])) _
                    exact retN X0 hx (t := .boolean) Bd.returns (by simp) (hb hby d2_59) hr
                  · show Q2 p0 h0 n0 _ s₁.heap _
                    rw [e0]
                    exact ⟨(by rw [isV, if_pos (by simp [eq_false hc3, eq_false hc9, eq_false hc15, eq_true hc21, eq_false hc33, eq_true hc39, eq_false hc45, eq_false hc51])]), N0, rfl⟩
            · obtain ⟨fs, hr, hrun, hended, hW, hsame⟩ := X0.leave (v := some (.int (1 : Int32))) (fun h => by rw [Bd.returns] at h; cases h)
              refine ⟨_, _, pre8 _ ?_, hrun, hended, _, _, rfl, ?_, ⟨_, rfl⟩, hW, hsame.mono (by decide) (by decide)⟩
              · show Steps p.tables e below (s₁.setTop (mkF m 39 #[.val (.int p0)] [(.int (65533 : Int32)), (.int p0)])) _
                refine XS.icmpYes X0.here hx rfl (pc0 := 39) (pc' := 54) rfl (hb hby d2_39) rfl (flt (show ¬ ((65533 : Int32) < p0) from hc39)).2.2.2 (by decide) (by decide) ?_
                show Steps p.tables e below (s₁.setTop (mkF m 54 #[.val (.int p0)] [])) _
                refine XS.iconst X0.here hx rfl (hb hby d2_54) ?_
                show Steps p.tables e below (s₁.setTop (mkF m 55 #[.val (.int p0)] [(.int (1 : Int32))])) _
                refine XS.goto X0.here hx rfl (pc0 := 55) (pc' := 59) rfl (hb hby d2_55) (by decide) (by decide) ?_
                show Steps p.tables e below (s₁.setTop (mkF m 59 #[.val (.int p0)] [(.int (1 : Int32))])) _
                exact retN X0 hx (t := .boolean) Bd.returns (by simp) (hb hby d2_59) hr
              · show Q2 p0 h0 n0 _ s₁.heap _
                rw [e0]
                exact ⟨(by rw [isV, if_pos (by simp [eq_false hc3, eq_false hc9, eq_false hc15, eq_true hc21, eq_false hc33, eq_false hc39])]), N0, rfl⟩
        · have pre11 : ∀ t, Steps p.tables e below (s₁.setTop (mkF m 27 #[.val (.int p0)] [(.int (55295 : Int32)), (.int p0)])) t → Steps p.tables e below (s₁.setTop (entryFrame m #[(.int p0)] 1)) t := fun t kt => pre4 t (by
              show Steps p.tables e below (s₁.setTop (mkF m 21 #[.val (.int p0)] [(.int p0), (.int (32 : Int32))])) _
              refine XS.icmpNo X0.here hx rfl (hb hby d2_21) rfl (flt (show ¬ (p0 < (32 : Int32)) from hc21)).2.2.1 ?_
              show Steps p.tables e below (s₁.setTop (mkF m 24 #[.val (.int p0)] [])) _
              refine XS.iloadN X0.here hx rfl (hb hby d2_24) rfl ?_
              show Steps p.tables e below (s₁.setTop (mkF m 25 #[.val (.int p0)] [(.int p0)])) _
              refine X0.ldcI hx hown (mvT hZ (hw _ (List.mem_of_getElem? (i := 26) rfl))) (g := (mkF m 25 #[.val (.int p0)] [(.int p0)])) rfl (hb hby d2_25) ?_
              exact kt)
          by_cases hc27 : (55295 : Int32) < p0
          · have pre12 : ∀ t, Steps p.tables e below (s₁.setTop (mkF m 33 #[.val (.int p0)] [(.int p0), (.int (57344 : Int32))])) t → Steps p.tables e below (s₁.setTop (entryFrame m #[(.int p0)] 1)) t := fun t kt => pre11 t (by
                show Steps p.tables e below (s₁.setTop (mkF m 27 #[.val (.int p0)] [(.int (55295 : Int32)), (.int p0)])) _
                refine XS.icmpNo X0.here hx rfl (hb hby d2_27) rfl (tlt (show (55295 : Int32) < p0 from hc27)).2.2.2 ?_
                show Steps p.tables e below (s₁.setTop (mkF m 30 #[.val (.int p0)] [])) _
                refine X0.ldcI hx hown (mvT hZ (hw _ (List.mem_of_getElem? (i := 21) rfl))) (g := (mkF m 30 #[.val (.int p0)] [])) rfl (hb hby d2_30) ?_
                show Steps p.tables e below (s₁.setTop (mkF m 32 #[.val (.int p0)] [(.int (57344 : Int32))])) _
                refine XS.iloadN X0.here hx rfl (hb hby d2_32) rfl ?_
                exact kt)
            by_cases hc33 : p0 < (57344 : Int32)
            · have pre13 : ∀ t, Steps p.tables e below (s₁.setTop (mkF m 45 #[.val (.int p0)] [(.int p0), (.int (65536 : Int32))])) t → Steps p.tables e below (s₁.setTop (entryFrame m #[(.int p0)] 1)) t := fun t kt => pre12 t (by
                  show Steps p.tables e below (s₁.setTop (mkF m 33 #[.val (.int p0)] [(.int p0), (.int (57344 : Int32))])) _
                  refine XS.icmpYes X0.here hx rfl (pc0 := 33) (pc' := 42) rfl (hb hby d2_33) rfl (tlt (show p0 < (57344 : Int32) from hc33)).2.2.1 (by decide) (by decide) ?_
                  show Steps p.tables e below (s₁.setTop (mkF m 42 #[.val (.int p0)] [])) _
                  refine X0.ldcI hx hown (mvT hZ (hw _ (List.mem_of_getElem? (i := 22) rfl))) (g := (mkF m 42 #[.val (.int p0)] [])) rfl (hb hby d2_42) ?_
                  show Steps p.tables e below (s₁.setTop (mkF m 44 #[.val (.int p0)] [(.int (65536 : Int32))])) _
                  refine XS.iloadN X0.here hx rfl (hb hby d2_44) rfl ?_
                  exact kt)
              by_cases hc45 : p0 < (65536 : Int32)
              · obtain ⟨fs, hr, hrun, hended, hW, hsame⟩ := X0.leave (v := some (.int (0 : Int32))) (fun h => by rw [Bd.returns] at h; cases h)
                refine ⟨_, _, pre13 _ ?_, hrun, hended, _, _, rfl, ?_, ⟨_, rfl⟩, hW, hsame.mono (by decide) (by decide)⟩
                · show Steps p.tables e below (s₁.setTop (mkF m 45 #[.val (.int p0)] [(.int p0), (.int (65536 : Int32))])) _
                  refine XS.icmpYes X0.here hx rfl (pc0 := 45) (pc' := 58) rfl (hb hby d2_45) rfl (tlt (show p0 < (65536 : Int32) from hc45)).2.2.1 (by decide) (by decide) ?_
                  show Steps p.tables e below (s₁.setTop (mkF m 58 #[.val (.int p0)] [])) _
                  refine XS.iconst X0.here hx rfl (hb hby d2_58) ?_
                  show Steps p.tables e below (s₁.setTop (mkF m 59 #[.val (.int p0)] [(.int (0 : Int32))])) _
                  exact retN X0 hx (t := .boolean) Bd.returns (by simp) (hb hby d2_59) hr
                · show Q2 p0 h0 n0 _ s₁.heap _
                  rw [e0]
                  exact ⟨(by rw [isV, if_neg (by simp [eq_false hc3, eq_false hc9, eq_false hc15, eq_false hc21, eq_true hc27, eq_true hc33, eq_true hc45])]), N0, rfl⟩
              · have pre14 : ∀ t, Steps p.tables e below (s₁.setTop (mkF m 51 #[.val (.int p0)] [(.int (1114111 : Int32)), (.int p0)])) t → Steps p.tables e below (s₁.setTop (entryFrame m #[(.int p0)] 1)) t := fun t kt => pre13 t (by
                    show Steps p.tables e below (s₁.setTop (mkF m 45 #[.val (.int p0)] [(.int p0), (.int (65536 : Int32))])) _
                    refine XS.icmpNo X0.here hx rfl (hb hby d2_45) rfl (flt (show ¬ (p0 < (65536 : Int32)) from hc45)).2.2.1 ?_
                    show Steps p.tables e below (s₁.setTop (mkF m 48 #[.val (.int p0)] [])) _
                    refine XS.iloadN X0.here hx rfl (hb hby d2_48) rfl ?_
                    show Steps p.tables e below (s₁.setTop (mkF m 49 #[.val (.int p0)] [(.int p0)])) _
                    refine X0.ldcI hx hown (mvT hZ (hw _ (List.mem_of_getElem? (i := 28) rfl))) (g := (mkF m 49 #[.val (.int p0)] [(.int p0)])) rfl (hb hby d2_49) ?_
                    exact kt)
                by_cases hc51 : (1114111 : Int32) < p0
                · obtain ⟨fs, hr, hrun, hended, hW, hsame⟩ := X0.leave (v := some (.int (0 : Int32))) (fun h => by rw [Bd.returns] at h; cases h)
                  refine ⟨_, _, pre14 _ ?_, hrun, hended, _, _, rfl, ?_, ⟨_, rfl⟩, hW, hsame.mono (by decide) (by decide)⟩
                  · show Steps p.tables e below (s₁.setTop (mkF m 51 #[.val (.int p0)] [(.int (1114111 : Int32)), (.int p0)])) _
                    refine XS.icmpYes X0.here hx rfl (pc0 := 51) (pc' := 58) rfl (hb hby d2_51) rfl (tlt (show (1114111 : Int32) < p0 from hc51)).2.2.1 (by decide) (by decide) ?_
                    show Steps p.tables e below (s₁.setTop (mkF m 58 #[.val (.int p0)] [])) _
                    refine XS.iconst X0.here hx rfl (hb hby d2_58) ?_
                    show Steps p.tables e below (s₁.setTop (mkF m 59 #[.val (.int p0)] [(.int (0 : Int32))])) _
                    exact retN X0 hx (t := .boolean) Bd.returns (by simp) (hb hby d2_59) hr
                  · show Q2 p0 h0 n0 _ s₁.heap _
                    rw [e0]
                    exact ⟨(by rw [isV, if_neg (by simp [eq_false hc3, eq_false hc9, eq_false hc15, eq_false hc21, eq_true hc27, eq_true hc33, eq_false hc45, eq_true hc51])]), N0, rfl⟩
                · obtain ⟨fs, hr, hrun, hended, hW, hsame⟩ := X0.leave (v := some (.int (1 : Int32))) (fun h => by rw [Bd.returns] at h; cases h)
                  refine ⟨_, _, pre14 _ ?_, hrun, hended, _, _, rfl, ?_, ⟨_, rfl⟩, hW, hsame.mono (by decide) (by decide)⟩
                  · show Steps p.tables e below (s₁.setTop (mkF m 51 #[.val (.int p0)] [(.int (1114111 : Int32)), (.int p0)])) _
                    refine XS.icmpNo X0.here hx rfl (hb hby d2_51) rfl (flt (show ¬ ((1114111 : Int32) < p0) from hc51)).2.2.1 ?_
                    show Steps p.tables e below (s₁.setTop (mkF m 54 #[.val (.int p0)] [])) _
                    refine XS.iconst X0.here hx rfl (hb hby d2_54) ?_
                    show Steps p.tables e below (s₁.setTop (mkF m 55 #[.val (.int p0)] [(.int (1 : Int32))])) _
                    refine XS.goto X0.here hx rfl (pc0 := 55) (pc' := 59) rfl (hb hby d2_55) (by decide) (by decide) ?_
                    show Steps p.tables e below (s₁.setTop (mkF m 59 #[.val (.int p0)] [(.int (1 : Int32))])) _
                    exact retN X0 hx (t := .boolean) Bd.returns (by simp) (hb hby d2_59) hr
                  · show Q2 p0 h0 n0 _ s₁.heap _
                    rw [e0]
                    exact ⟨(by rw [isV, if_pos (by simp [eq_false hc3, eq_false hc9, eq_false hc15, eq_false hc21, eq_true hc27, eq_true hc33, eq_false hc45, eq_false hc51])]), N0, rfl⟩
            · have pre15 : ∀ t, Steps p.tables e below (s₁.setTop (mkF m 39 #[.val (.int p0)] [(.int (65533 : Int32)), (.int p0)])) t → Steps p.tables e below (s₁.setTop (entryFrame m #[(.int p0)] 1)) t := fun t kt => pre12 t (by
                  show Steps p.tables e below (s₁.setTop (mkF m 33 #[.val (.int p0)] [(.int p0), (.int (57344 : Int32))])) _
                  refine XS.icmpNo X0.here hx rfl (hb hby d2_33) rfl (flt (show ¬ (p0 < (57344 : Int32)) from hc33)).2.2.1 ?_
                  show Steps p.tables e below (s₁.setTop (mkF m 36 #[.val (.int p0)] [])) _
                  refine XS.iloadN X0.here hx rfl (hb hby d2_36) rfl ?_
                  show Steps p.tables e below (s₁.setTop (mkF m 37 #[.val (.int p0)] [(.int p0)])) _
                  refine X0.ldcI hx hown (mvT hZ (hw _ (List.mem_of_getElem? (i := 27) rfl))) (g := (mkF m 37 #[.val (.int p0)] [(.int p0)])) rfl (hb hby d2_37) ?_
                  exact kt)
              by_cases hc39 : (65533 : Int32) < p0
              · have pre16 : ∀ t, Steps p.tables e below (s₁.setTop (mkF m 45 #[.val (.int p0)] [(.int p0), (.int (65536 : Int32))])) t → Steps p.tables e below (s₁.setTop (entryFrame m #[(.int p0)] 1)) t := fun t kt => pre15 t (by
                    show Steps p.tables e below (s₁.setTop (mkF m 39 #[.val (.int p0)] [(.int (65533 : Int32)), (.int p0)])) _
                    refine XS.icmpNo X0.here hx rfl (hb hby d2_39) rfl (tlt (show (65533 : Int32) < p0 from hc39)).2.2.2 ?_
                    show Steps p.tables e below (s₁.setTop (mkF m 42 #[.val (.int p0)] [])) _
                    refine X0.ldcI hx hown (mvT hZ (hw _ (List.mem_of_getElem? (i := 22) rfl))) (g := (mkF m 42 #[.val (.int p0)] [])) rfl (hb hby d2_42) ?_
                    show Steps p.tables e below (s₁.setTop (mkF m 44 #[.val (.int p0)] [(.int (65536 : Int32))])) _
                    refine XS.iloadN X0.here hx rfl (hb hby d2_44) rfl ?_
                    exact kt)
                by_cases hc45 : p0 < (65536 : Int32)
                · obtain ⟨fs, hr, hrun, hended, hW, hsame⟩ := X0.leave (v := some (.int (0 : Int32))) (fun h => by rw [Bd.returns] at h; cases h)
                  refine ⟨_, _, pre16 _ ?_, hrun, hended, _, _, rfl, ?_, ⟨_, rfl⟩, hW, hsame.mono (by decide) (by decide)⟩
                  · show Steps p.tables e below (s₁.setTop (mkF m 45 #[.val (.int p0)] [(.int p0), (.int (65536 : Int32))])) _
                    refine XS.icmpYes X0.here hx rfl (pc0 := 45) (pc' := 58) rfl (hb hby d2_45) rfl (tlt (show p0 < (65536 : Int32) from hc45)).2.2.1 (by decide) (by decide) ?_
                    show Steps p.tables e below (s₁.setTop (mkF m 58 #[.val (.int p0)] [])) _
                    refine XS.iconst X0.here hx rfl (hb hby d2_58) ?_
                    show Steps p.tables e below (s₁.setTop (mkF m 59 #[.val (.int p0)] [(.int (0 : Int32))])) _
                    exact retN X0 hx (t := .boolean) Bd.returns (by simp) (hb hby d2_59) hr
                  · show Q2 p0 h0 n0 _ s₁.heap _
                    rw [e0]
                    exact ⟨(by rw [isV, if_neg (by simp [eq_false hc3, eq_false hc9, eq_false hc15, eq_false hc21, eq_true hc27, eq_false hc33, eq_true hc39, eq_true hc45])]), N0, rfl⟩
                · have pre17 : ∀ t, Steps p.tables e below (s₁.setTop (mkF m 51 #[.val (.int p0)] [(.int (1114111 : Int32)), (.int p0)])) t → Steps p.tables e below (s₁.setTop (entryFrame m #[(.int p0)] 1)) t := fun t kt => pre16 t (by
                      show Steps p.tables e below (s₁.setTop (mkF m 45 #[.val (.int p0)] [(.int p0), (.int (65536 : Int32))])) _
                      refine XS.icmpNo X0.here hx rfl (hb hby d2_45) rfl (flt (show ¬ (p0 < (65536 : Int32)) from hc45)).2.2.1 ?_
                      show Steps p.tables e below (s₁.setTop (mkF m 48 #[.val (.int p0)] [])) _
                      refine XS.iloadN X0.here hx rfl (hb hby d2_48) rfl ?_
                      show Steps p.tables e below (s₁.setTop (mkF m 49 #[.val (.int p0)] [(.int p0)])) _
                      refine X0.ldcI hx hown (mvT hZ (hw _ (List.mem_of_getElem? (i := 28) rfl))) (g := (mkF m 49 #[.val (.int p0)] [(.int p0)])) rfl (hb hby d2_49) ?_
                      exact kt)
                  by_cases hc51 : (1114111 : Int32) < p0
                  · obtain ⟨fs, hr, hrun, hended, hW, hsame⟩ := X0.leave (v := some (.int (0 : Int32))) (fun h => by rw [Bd.returns] at h; cases h)
                    refine ⟨_, _, pre17 _ ?_, hrun, hended, _, _, rfl, ?_, ⟨_, rfl⟩, hW, hsame.mono (by decide) (by decide)⟩
                    · show Steps p.tables e below (s₁.setTop (mkF m 51 #[.val (.int p0)] [(.int (1114111 : Int32)), (.int p0)])) _
                      refine XS.icmpYes X0.here hx rfl (pc0 := 51) (pc' := 58) rfl (hb hby d2_51) rfl (tlt (show (1114111 : Int32) < p0 from hc51)).2.2.1 (by decide) (by decide) ?_
                      show Steps p.tables e below (s₁.setTop (mkF m 58 #[.val (.int p0)] [])) _
                      refine XS.iconst X0.here hx rfl (hb hby d2_58) ?_
                      show Steps p.tables e below (s₁.setTop (mkF m 59 #[.val (.int p0)] [(.int (0 : Int32))])) _
                      exact retN X0 hx (t := .boolean) Bd.returns (by simp) (hb hby d2_59) hr
                    · show Q2 p0 h0 n0 _ s₁.heap _
                      rw [e0]
                      exact ⟨(by rw [isV, if_neg (by simp [eq_false hc3, eq_false hc9, eq_false hc15, eq_false hc21, eq_true hc27, eq_false hc33, eq_true hc39, eq_false hc45, eq_true hc51])]), N0, rfl⟩
                  · obtain ⟨fs, hr, hrun, hended, hW, hsame⟩ := X0.leave (v := some (.int (1 : Int32))) (fun h => by rw [Bd.returns] at h; cases h)
                    refine ⟨_, _, pre17 _ ?_, hrun, hended, _, _, rfl, ?_, ⟨_, rfl⟩, hW, hsame.mono (by decide) (by decide)⟩
                    · show Steps p.tables e below (s₁.setTop (mkF m 51 #[.val (.int p0)] [(.int (1114111 : Int32)), (.int p0)])) _
                      refine XS.icmpNo X0.here hx rfl (hb hby d2_51) rfl (flt (show ¬ ((1114111 : Int32) < p0) from hc51)).2.2.1 ?_
                      show Steps p.tables e below (s₁.setTop (mkF m 54 #[.val (.int p0)] [])) _
                      refine XS.iconst X0.here hx rfl (hb hby d2_54) ?_
                      show Steps p.tables e below (s₁.setTop (mkF m 55 #[.val (.int p0)] [(.int (1 : Int32))])) _
                      refine XS.goto X0.here hx rfl (pc0 := 55) (pc' := 59) rfl (hb hby d2_55) (by decide) (by decide) ?_
                      show Steps p.tables e below (s₁.setTop (mkF m 59 #[.val (.int p0)] [(.int (1 : Int32))])) _
                      exact retN X0 hx (t := .boolean) Bd.returns (by simp) (hb hby d2_59) hr
                    · show Q2 p0 h0 n0 _ s₁.heap _
                      rw [e0]
                      exact ⟨(by rw [isV, if_pos (by simp [eq_false hc3, eq_false hc9, eq_false hc15, eq_false hc21, eq_true hc27, eq_false hc33, eq_true hc39, eq_false hc45, eq_false hc51])]), N0, rfl⟩
              · obtain ⟨fs, hr, hrun, hended, hW, hsame⟩ := X0.leave (v := some (.int (1 : Int32))) (fun h => by rw [Bd.returns] at h; cases h)
                refine ⟨_, _, pre15 _ ?_, hrun, hended, _, _, rfl, ?_, ⟨_, rfl⟩, hW, hsame.mono (by decide) (by decide)⟩
                · show Steps p.tables e below (s₁.setTop (mkF m 39 #[.val (.int p0)] [(.int (65533 : Int32)), (.int p0)])) _
                  refine XS.icmpYes X0.here hx rfl (pc0 := 39) (pc' := 54) rfl (hb hby d2_39) rfl (flt (show ¬ ((65533 : Int32) < p0) from hc39)).2.2.2 (by decide) (by decide) ?_
                  show Steps p.tables e below (s₁.setTop (mkF m 54 #[.val (.int p0)] [])) _
                  refine XS.iconst X0.here hx rfl (hb hby d2_54) ?_
                  show Steps p.tables e below (s₁.setTop (mkF m 55 #[.val (.int p0)] [(.int (1 : Int32))])) _
                  refine XS.goto X0.here hx rfl (pc0 := 55) (pc' := 59) rfl (hb hby d2_55) (by decide) (by decide) ?_
                  show Steps p.tables e below (s₁.setTop (mkF m 59 #[.val (.int p0)] [(.int (1 : Int32))])) _
                  exact retN X0 hx (t := .boolean) Bd.returns (by simp) (hb hby d2_59) hr
                · show Q2 p0 h0 n0 _ s₁.heap _
                  rw [e0]
                  exact ⟨(by rw [isV, if_pos (by simp [eq_false hc3, eq_false hc9, eq_false hc15, eq_false hc21, eq_true hc27, eq_false hc33, eq_false hc39])]), N0, rfl⟩
          · obtain ⟨fs, hr, hrun, hended, hW, hsame⟩ := X0.leave (v := some (.int (1 : Int32))) (fun h => by rw [Bd.returns] at h; cases h)
            refine ⟨_, _, pre11 _ ?_, hrun, hended, _, _, rfl, ?_, ⟨_, rfl⟩, hW, hsame.mono (by decide) (by decide)⟩
            · show Steps p.tables e below (s₁.setTop (mkF m 27 #[.val (.int p0)] [(.int (55295 : Int32)), (.int p0)])) _
              refine XS.icmpYes X0.here hx rfl (pc0 := 27) (pc' := 54) rfl (hb hby d2_27) rfl (flt (show ¬ ((55295 : Int32) < p0) from hc27)).2.2.2 (by decide) (by decide) ?_
              show Steps p.tables e below (s₁.setTop (mkF m 54 #[.val (.int p0)] [])) _
              refine XS.iconst X0.here hx rfl (hb hby d2_54) ?_
              show Steps p.tables e below (s₁.setTop (mkF m 55 #[.val (.int p0)] [(.int (1 : Int32))])) _
              refine XS.goto X0.here hx rfl (pc0 := 55) (pc' := 59) rfl (hb hby d2_55) (by decide) (by decide) ?_
              show Steps p.tables e below (s₁.setTop (mkF m 59 #[.val (.int p0)] [(.int (1 : Int32))])) _
              exact retN X0 hx (t := .boolean) Bd.returns (by simp) (hb hby d2_59) hr
            · show Q2 p0 h0 n0 _ s₁.heap _
              rw [e0]
              exact ⟨(by rw [isV, if_pos (by simp [eq_false hc3, eq_false hc9, eq_false hc15, eq_false hc21, eq_false hc27])]), N0, rfl⟩
theorem d3_0 : decode method_3_code 0 = .ok (.iload_n 0, 1) := by decide +kernel
theorem d3_1 : decode method_3_code 1 = .ok (.ifCond .lt 57, 3) := by decide +kernel
theorem d3_4 : decode method_3_code 4 = .ok (.iload_n 0, 1) := by decide +kernel
theorem d3_5 : decode method_3_code 5 = .ok (.ldc 18, 2) := by decide +kernel
theorem d3_7 : decode method_3_code 7 = .ok (.if_icmp .gt 51, 3) := by decide +kernel
theorem d3_10 : decode method_3_code 10 = .ok (.iload_n 0, 1) := by decide +kernel
theorem d3_11 : decode method_3_code 11 = .ok (.bipush 32, 2) := by decide +kernel
theorem d3_13 : decode method_3_code 13 = .ok (.if_icmp .ge 21, 3) := by decide +kernel
theorem d3_16 : decode method_3_code 16 = .ok (.iload_n 0, 1) := by decide +kernel
theorem d3_17 : decode method_3_code 17 = .ok (.bipush 9, 2) := by decide +kernel
theorem d3_19 : decode method_3_code 19 = .ok (.if_icmp .eq 15, 3) := by decide +kernel
theorem d3_22 : decode method_3_code 22 = .ok (.iload_n 0, 1) := by decide +kernel
theorem d3_23 : decode method_3_code 23 = .ok (.bipush 10, 2) := by decide +kernel
theorem d3_25 : decode method_3_code 25 = .ok (.if_icmp .eq 9, 3) := by decide +kernel
theorem d3_28 : decode method_3_code 28 = .ok (.iload_n 0, 1) := by decide +kernel
theorem d3_29 : decode method_3_code 29 = .ok (.bipush 13, 2) := by decide +kernel
theorem d3_31 : decode method_3_code 31 = .ok (.if_icmp .ne 27, 3) := by decide +kernel
theorem d3_34 : decode method_3_code 34 = .ok (.iload_n 0, 1) := by decide +kernel
theorem d3_35 : decode method_3_code 35 = .ok (.ldc 11, 2) := by decide +kernel
theorem d3_37 : decode method_3_code 37 = .ok (.if_icmp .lt 9, 3) := by decide +kernel
theorem d3_40 : decode method_3_code 40 = .ok (.iload_n 0, 1) := by decide +kernel
theorem d3_41 : decode method_3_code 41 = .ok (.ldc 12, 2) := by decide +kernel
theorem d3_43 : decode method_3_code 43 = .ok (.if_icmp .le 15, 3) := by decide +kernel
theorem d3_46 : decode method_3_code 46 = .ok (.iload_n 0, 1) := by decide +kernel
theorem d3_47 : decode method_3_code 47 = .ok (.ldc 15, 2) := by decide +kernel
theorem d3_49 : decode method_3_code 49 = .ok (.if_icmp .eq 9, 3) := by decide +kernel
theorem d3_52 : decode method_3_code 52 = .ok (.iload_n 0, 1) := by decide +kernel
theorem d3_53 : decode method_3_code 53 = .ok (.ldc 16, 2) := by decide +kernel
theorem d3_55 : decode method_3_code 55 = .ok (.if_icmp .ne 7, 3) := by decide +kernel
theorem d3_58 : decode method_3_code 58 = .ok (.iconst 1, 1) := by decide +kernel
theorem d3_59 : decode method_3_code 59 = .ok (.goto 4, 3) := by decide +kernel
theorem d3_62 : decode method_3_code 62 = .ok (.iconst 0, 1) := by decide +kernel
theorem d3_63 : decode method_3_code 63 = .ok (.istore_n 1, 1) := by decide +kernel
theorem d3_64 : decode method_3_code 64 = .ok (.iload_n 1, 1) := by decide +kernel
theorem d3_65 : decode method_3_code 65 = .ok (.ifCond .ne 7, 3) := by decide +kernel
theorem d3_68 : decode method_3_code 68 = .ok (.iconst 1, 1) := by decide +kernel
theorem d3_69 : decode method_3_code 69 = .ok (.goto 4, 3) := by decide +kernel
theorem d3_72 : decode method_3_code 72 = .ok (.iconst 0, 1) := by decide +kernel
theorem d3_73 : decode method_3_code 73 = .ok (.ireturn, 1) := by decide +kernel
theorem ef_3 (m : MethodId) (p0 : Int32) : entryFrame m #[(.int p0)] 2 = mkF m 0 #[.val (.int p0), .unset] [] := by first | (simp [entryFrame, mkF, argsToLocals, Value.category]; done) | rfl
def Q3 (p0 : Int32) (h0 : Heap) (n0 : Nat) (v : Option Value) (h : Heap) (L : List Loc) : Prop := v = some (.int (exV p0)) ∧ Fr n0 L ∧ h = h0
set_option maxRecDepth 65536 in
set_option maxHeartbeats 40000000 in
theorem rm3 (l : Launch) (Z : State) (a0 : Array Value) (hw : ∀ d ∈ tables_1, d.before a0 Z = true) (ws : List Jvm.Cond) (p0 : Int32) (h0 : Heap) (n0 : Nat) (Z0 : n0 ≤ h0.size)  :
    MetFree l (⟨"com/example/inked_rows/inkedrows/xml/XmlNamesIsXmlCharPinLaw", "expected", "(I)Z"⟩ : MethodName) (head1 (Jvm.Cond.code (⟨"com/example/inked_rows/inkedrows/xml/XmlNamesIsXmlCharPinLaw", "expected", "(I)Z"⟩ : MethodName) method_3_code 2 (some .boolean) :: ws) ({ frames := 0, cells := 0, slots := 0, locals := 0 } : Room)) (fun a U => a = #[(.int p0)] ∧ Z.Warmed39 U.vm ∧ U.heap = h0) (fun _ _ _ _ _ => True) (fun _ U o U' => ∃ v L, o = .returned v ∧ Q3 p0 h0 n0 v U'.heap L ∧ FrameEnd U o U' L ({ frames := 0, cells := 0, slots := 0, locals := 0 } : Room).cells ({ frames := 0, cells := 0, slots := 0, locals := 0 } : Room).slots) := by
  refine MetFree.of_bodySF (plainFor_of_name pn_0) hisR ?_
  intro p e s m args below meth c s₁ Bd hml0 hP hK
  obtain ⟨rfl, hZ, hh⟩ := hP
  have hx := Bd.exec
  have hby := Bd.bytes
  have hml : c.maxLocals = 2 := hml0
  have hown : s.vm.findClass "com/example/inked_rows/inkedrows/xml/XmlNamesIsXmlCharPinLaw" = some m.cls := findClass_of_methodNamed Bd.named
  have hnm := (name_of_methodNamed Bd.named Bd.method).1
  have X0 : Stand p l e ({ frames := 0, cells := 0, slots := 0, locals := 0 } : Room) s m #[(.int p0)] below meth c s₁ [] 0 0 := Stand.of_body Bd
  have e0 : s₁.heap = h0 := by rw [← hh, Bd.state]; rfl
  have N0 := Fr.nil n0
  have pre0 : ∀ t, Steps p.tables e below (s₁.setTop (mkF m 0 #[.val (.int p0), .unset] [])) t → Steps p.tables e below (s₁.setTop (entryFrame m #[(.int p0)] 2)) t := fun t k => castTop (ef_3 m p0) k
  have pre1 : ∀ t, Steps p.tables e below (s₁.setTop (mkF m 1 #[.val (.int p0), .unset] [(.int p0)])) t → Steps p.tables e below (s₁.setTop (entryFrame m #[(.int p0)] 2)) t := fun t kt => pre0 t (by
      show Steps p.tables e below (s₁.setTop (mkF m 0 #[.val (.int p0), .unset] [])) _
      refine XS.iloadN X0.here hx rfl (hb hby d3_0) rfl ?_
      exact kt)
  by_cases hc1 : p0 < (0 : Int32)
  · obtain ⟨fs, hr, hrun, hended, hW, hsame⟩ := X0.leave (v := some (.int (0 : Int32))) (fun h => by rw [Bd.returns] at h; cases h)
    refine ⟨_, _, pre1 _ ?_, hrun, hended, _, _, rfl, ?_, ⟨_, rfl⟩, hW, hsame.mono (by decide) (by decide)⟩
    · show Steps p.tables e below (s₁.setTop (mkF m 1 #[.val (.int p0), .unset] [(.int p0)])) _
      refine XS.ifYes X0.here hx rfl (pc0 := 1) (pc' := 58) rfl (hb hby d3_1) rfl ((if0 _ _).trans (tlt (show p0 < (0 : Int32) from hc1)).1) (by decide) (by decide) ?_
      show Steps p.tables e below (s₁.setTop (mkF m 58 #[.val (.int p0), .unset] [])) _
      refine XS.iconst X0.here hx rfl (hb hby d3_58) ?_
      show Steps p.tables e below (s₁.setTop (mkF m 59 #[.val (.int p0), .unset] [(.int (1 : Int32))])) _
      refine XS.goto X0.here hx rfl (pc0 := 59) (pc' := 63) rfl (hb hby d3_59) (by decide) (by decide) ?_
      show Steps p.tables e below (s₁.setTop (mkF m 63 #[.val (.int p0), .unset] [(.int (1 : Int32))])) _
      refine XS.istoreN X0.here hx rfl (hb hby d3_63) rfl (l' := #[.val (.int p0), .val (.int (1 : Int32))]) rfl ?_
      show Steps p.tables e below (s₁.setTop (mkF m 64 #[.val (.int p0), .val (.int (1 : Int32))] [])) _
      refine XS.iloadN X0.here hx rfl (hb hby d3_64) rfl ?_
      show Steps p.tables e below (s₁.setTop (mkF m 65 #[.val (.int p0), .val (.int (1 : Int32))] [(.int (1 : Int32))])) _
      refine XS.ifYes X0.here hx rfl (pc0 := 65) (pc' := 72) rfl (hb hby d3_65) rfl ((if0 _ _).trans (feq (show ¬ ((1 : Int32) = (0 : Int32)) from (by decide))).2) (by decide) (by decide) ?_
      show Steps p.tables e below (s₁.setTop (mkF m 72 #[.val (.int p0), .val (.int (1 : Int32))] [])) _
      refine XS.iconst X0.here hx rfl (hb hby d3_72) ?_
      show Steps p.tables e below (s₁.setTop (mkF m 73 #[.val (.int p0), .val (.int (1 : Int32))] [(.int (0 : Int32))])) _
      exact retN X0 hx (t := .boolean) Bd.returns (by simp) (hb hby d3_73) hr
    · show Q3 p0 h0 n0 _ s₁.heap _
      rw [e0]
      exact ⟨(by rw [exV, if_pos (by simp [eq_true hc1])]), N0, rfl⟩
  · have pre2 : ∀ t, Steps p.tables e below (s₁.setTop (mkF m 7 #[.val (.int p0), .unset] [(.int (1114111 : Int32)), (.int p0)])) t → Steps p.tables e below (s₁.setTop (entryFrame m #[(.int p0)] 2)) t := fun t kt => pre1 t (by
        show Steps p.tables e below (s₁.setTop (mkF m 1 #[.val (.int p0), .unset] [(.int p0)])) _
        refine XS.ifNo X0.here hx rfl (hb hby d3_1) rfl ((if0 _ _).trans (flt (show ¬ (p0 < (0 : Int32)) from hc1)).1) ?_
        show Steps p.tables e below (s₁.setTop (mkF m 4 #[.val (.int p0), .unset] [])) _
        refine XS.iloadN X0.here hx rfl (hb hby d3_4) rfl ?_
        show Steps p.tables e below (s₁.setTop (mkF m 5 #[.val (.int p0), .unset] [(.int p0)])) _
        refine X0.ldcI hx hown (mvT hZ (hw _ (List.mem_of_getElem? (i := 14) rfl))) (g := (mkF m 5 #[.val (.int p0), .unset] [(.int p0)])) rfl (hb hby d3_5) ?_
        exact kt)
    by_cases hc7 : (1114111 : Int32) < p0
    · obtain ⟨fs, hr, hrun, hended, hW, hsame⟩ := X0.leave (v := some (.int (0 : Int32))) (fun h => by rw [Bd.returns] at h; cases h)
      refine ⟨_, _, pre2 _ ?_, hrun, hended, _, _, rfl, ?_, ⟨_, rfl⟩, hW, hsame.mono (by decide) (by decide)⟩
      · show Steps p.tables e below (s₁.setTop (mkF m 7 #[.val (.int p0), .unset] [(.int (1114111 : Int32)), (.int p0)])) _
        refine XS.icmpYes X0.here hx rfl (pc0 := 7) (pc' := 58) rfl (hb hby d3_7) rfl (tlt (show (1114111 : Int32) < p0 from hc7)).2.2.1 (by decide) (by decide) ?_
        show Steps p.tables e below (s₁.setTop (mkF m 58 #[.val (.int p0), .unset] [])) _
        refine XS.iconst X0.here hx rfl (hb hby d3_58) ?_
        show Steps p.tables e below (s₁.setTop (mkF m 59 #[.val (.int p0), .unset] [(.int (1 : Int32))])) _
        refine XS.goto X0.here hx rfl (pc0 := 59) (pc' := 63) rfl (hb hby d3_59) (by decide) (by decide) ?_
        show Steps p.tables e below (s₁.setTop (mkF m 63 #[.val (.int p0), .unset] [(.int (1 : Int32))])) _
        refine XS.istoreN X0.here hx rfl (hb hby d3_63) rfl (l' := #[.val (.int p0), .val (.int (1 : Int32))]) rfl ?_
        show Steps p.tables e below (s₁.setTop (mkF m 64 #[.val (.int p0), .val (.int (1 : Int32))] [])) _
        refine XS.iloadN X0.here hx rfl (hb hby d3_64) rfl ?_
        show Steps p.tables e below (s₁.setTop (mkF m 65 #[.val (.int p0), .val (.int (1 : Int32))] [(.int (1 : Int32))])) _
        refine XS.ifYes X0.here hx rfl (pc0 := 65) (pc' := 72) rfl (hb hby d3_65) rfl ((if0 _ _).trans (feq (show ¬ ((1 : Int32) = (0 : Int32)) from (by decide))).2) (by decide) (by decide) ?_
        show Steps p.tables e below (s₁.setTop (mkF m 72 #[.val (.int p0), .val (.int (1 : Int32))] [])) _
        refine XS.iconst X0.here hx rfl (hb hby d3_72) ?_
        show Steps p.tables e below (s₁.setTop (mkF m 73 #[.val (.int p0), .val (.int (1 : Int32))] [(.int (0 : Int32))])) _
        exact retN X0 hx (t := .boolean) Bd.returns (by simp) (hb hby d3_73) hr
      · show Q3 p0 h0 n0 _ s₁.heap _
        rw [e0]
        exact ⟨(by rw [exV, if_pos (by simp [eq_false hc1, eq_true hc7])]), N0, rfl⟩
    · have pre3 : ∀ t, Steps p.tables e below (s₁.setTop (mkF m 13 #[.val (.int p0), .unset] [(.int (32 : Int32)), (.int p0)])) t → Steps p.tables e below (s₁.setTop (entryFrame m #[(.int p0)] 2)) t := fun t kt => pre2 t (by
          show Steps p.tables e below (s₁.setTop (mkF m 7 #[.val (.int p0), .unset] [(.int (1114111 : Int32)), (.int p0)])) _
          refine XS.icmpNo X0.here hx rfl (hb hby d3_7) rfl (flt (show ¬ ((1114111 : Int32) < p0) from hc7)).2.2.1 ?_
          show Steps p.tables e below (s₁.setTop (mkF m 10 #[.val (.int p0), .unset] [])) _
          refine XS.iloadN X0.here hx rfl (hb hby d3_10) rfl ?_
          show Steps p.tables e below (s₁.setTop (mkF m 11 #[.val (.int p0), .unset] [(.int p0)])) _
          refine XS.bipush X0.here hx rfl (hb hby d3_11) ?_
          exact kt)
      by_cases hc13 : p0 < (32 : Int32)
      · have pre4 : ∀ t, Steps p.tables e below (s₁.setTop (mkF m 19 #[.val (.int p0), .unset] [(.int (9 : Int32)), (.int p0)])) t → Steps p.tables e below (s₁.setTop (entryFrame m #[(.int p0)] 2)) t := fun t kt => pre3 t (by
            show Steps p.tables e below (s₁.setTop (mkF m 13 #[.val (.int p0), .unset] [(.int (32 : Int32)), (.int p0)])) _
            refine XS.icmpNo X0.here hx rfl (hb hby d3_13) rfl (tlt (show p0 < (32 : Int32) from hc13)).2.1 ?_
            show Steps p.tables e below (s₁.setTop (mkF m 16 #[.val (.int p0), .unset] [])) _
            refine XS.iloadN X0.here hx rfl (hb hby d3_16) rfl ?_
            show Steps p.tables e below (s₁.setTop (mkF m 17 #[.val (.int p0), .unset] [(.int p0)])) _
            refine XS.bipush X0.here hx rfl (hb hby d3_17) ?_
            exact kt)
        by_cases hc19 : p0 = (9 : Int32)
        · have pre5 : ∀ t, Steps p.tables e below (s₁.setTop (mkF m 37 #[.val (.int p0), .unset] [(.int (55296 : Int32)), (.int p0)])) t → Steps p.tables e below (s₁.setTop (entryFrame m #[(.int p0)] 2)) t := fun t kt => pre4 t (by
              show Steps p.tables e below (s₁.setTop (mkF m 19 #[.val (.int p0), .unset] [(.int (9 : Int32)), (.int p0)])) _
              refine XS.icmpYes X0.here hx rfl (pc0 := 19) (pc' := 34) rfl (hb hby d3_19) rfl (teq (show p0 = (9 : Int32) from hc19)).1 (by decide) (by decide) ?_
              show Steps p.tables e below (s₁.setTop (mkF m 34 #[.val (.int p0), .unset] [])) _
              refine XS.iloadN X0.here hx rfl (hb hby d3_34) rfl ?_
              show Steps p.tables e below (s₁.setTop (mkF m 35 #[.val (.int p0), .unset] [(.int p0)])) _
              refine X0.ldcI hx hown (mvT hZ (hw _ (List.mem_of_getElem? (i := 7) rfl))) (g := (mkF m 35 #[.val (.int p0), .unset] [(.int p0)])) rfl (hb hby d3_35) ?_
              exact kt)
          by_cases hc37 : p0 < (55296 : Int32)
          · have pre6 : ∀ t, Steps p.tables e below (s₁.setTop (mkF m 49 #[.val (.int p0), .unset] [(.int (65534 : Int32)), (.int p0)])) t → Steps p.tables e below (s₁.setTop (entryFrame m #[(.int p0)] 2)) t := fun t kt => pre5 t (by
                show Steps p.tables e below (s₁.setTop (mkF m 37 #[.val (.int p0), .unset] [(.int (55296 : Int32)), (.int p0)])) _
                refine XS.icmpYes X0.here hx rfl (pc0 := 37) (pc' := 46) rfl (hb hby d3_37) rfl (tlt (show p0 < (55296 : Int32) from hc37)).1 (by decide) (by decide) ?_
                show Steps p.tables e below (s₁.setTop (mkF m 46 #[.val (.int p0), .unset] [])) _
                refine XS.iloadN X0.here hx rfl (hb hby d3_46) rfl ?_
                show Steps p.tables e below (s₁.setTop (mkF m 47 #[.val (.int p0), .unset] [(.int p0)])) _
                refine X0.ldcI hx hown (mvT hZ (hw _ (List.mem_of_getElem? (i := 11) rfl))) (g := (mkF m 47 #[.val (.int p0), .unset] [(.int p0)])) rfl (hb hby d3_47) ?_
                exact kt)
            by_cases hc49 : p0 = (65534 : Int32)
            · obtain ⟨fs, hr, hrun, hended, hW, hsame⟩ := X0.leave (v := some (.int (0 : Int32))) (fun h => by rw [Bd.returns] at h; cases h)
              refine ⟨_, _, pre6 _ ?_, hrun, hended, _, _, rfl, ?_, ⟨_, rfl⟩, hW, hsame.mono (by decide) (by decide)⟩
              · show Steps p.tables e below (s₁.setTop (mkF m 49 #[.val (.int p0), .unset] [(.int (65534 : Int32)), (.int p0)])) _
                refine XS.icmpYes X0.here hx rfl (pc0 := 49) (pc' := 58) rfl (hb hby d3_49) rfl (teq (show p0 = (65534 : Int32) from hc49)).1 (by decide) (by decide) ?_
                show Steps p.tables e below (s₁.setTop (mkF m 58 #[.val (.int p0), .unset] [])) _
                refine XS.iconst X0.here hx rfl (hb hby d3_58) ?_
                show Steps p.tables e below (s₁.setTop (mkF m 59 #[.val (.int p0), .unset] [(.int (1 : Int32))])) _
                refine XS.goto X0.here hx rfl (pc0 := 59) (pc' := 63) rfl (hb hby d3_59) (by decide) (by decide) ?_
                show Steps p.tables e below (s₁.setTop (mkF m 63 #[.val (.int p0), .unset] [(.int (1 : Int32))])) _
                refine XS.istoreN X0.here hx rfl (hb hby d3_63) rfl (l' := #[.val (.int p0), .val (.int (1 : Int32))]) rfl ?_
                show Steps p.tables e below (s₁.setTop (mkF m 64 #[.val (.int p0), .val (.int (1 : Int32))] [])) _
                refine XS.iloadN X0.here hx rfl (hb hby d3_64) rfl ?_
                show Steps p.tables e below (s₁.setTop (mkF m 65 #[.val (.int p0), .val (.int (1 : Int32))] [(.int (1 : Int32))])) _
                refine XS.ifYes X0.here hx rfl (pc0 := 65) (pc' := 72) rfl (hb hby d3_65) rfl ((if0 _ _).trans (feq (show ¬ ((1 : Int32) = (0 : Int32)) from (by decide))).2) (by decide) (by decide) ?_
                show Steps p.tables e below (s₁.setTop (mkF m 72 #[.val (.int p0), .val (.int (1 : Int32))] [])) _
                refine XS.iconst X0.here hx rfl (hb hby d3_72) ?_
                show Steps p.tables e below (s₁.setTop (mkF m 73 #[.val (.int p0), .val (.int (1 : Int32))] [(.int (0 : Int32))])) _
                exact retN X0 hx (t := .boolean) Bd.returns (by simp) (hb hby d3_73) hr
              · show Q3 p0 h0 n0 _ s₁.heap _
                rw [e0]
                exact ⟨(by rw [exV, if_pos (by simp [eq_false hc1, eq_false hc7, eq_true hc13, eq_true hc19, eq_true hc37, eq_true hc49])]), N0, rfl⟩
            · have pre7 : ∀ t, Steps p.tables e below (s₁.setTop (mkF m 55 #[.val (.int p0), .unset] [(.int (65535 : Int32)), (.int p0)])) t → Steps p.tables e below (s₁.setTop (entryFrame m #[(.int p0)] 2)) t := fun t kt => pre6 t (by
                  show Steps p.tables e below (s₁.setTop (mkF m 49 #[.val (.int p0), .unset] [(.int (65534 : Int32)), (.int p0)])) _
                  refine XS.icmpNo X0.here hx rfl (hb hby d3_49) rfl (feq (show ¬ (p0 = (65534 : Int32)) from hc49)).1 ?_
                  show Steps p.tables e below (s₁.setTop (mkF m 52 #[.val (.int p0), .unset] [])) _
                  refine XS.iloadN X0.here hx rfl (hb hby d3_52) rfl ?_
                  show Steps p.tables e below (s₁.setTop (mkF m 53 #[.val (.int p0), .unset] [(.int p0)])) _
                  refine X0.ldcI hx hown (mvT hZ (hw _ (List.mem_of_getElem? (i := 12) rfl))) (g := (mkF m 53 #[.val (.int p0), .unset] [(.int p0)])) rfl (hb hby d3_53) ?_
                  exact kt)
              by_cases hc55 : p0 = (65535 : Int32)
              · obtain ⟨fs, hr, hrun, hended, hW, hsame⟩ := X0.leave (v := some (.int (0 : Int32))) (fun h => by rw [Bd.returns] at h; cases h)
                refine ⟨_, _, pre7 _ ?_, hrun, hended, _, _, rfl, ?_, ⟨_, rfl⟩, hW, hsame.mono (by decide) (by decide)⟩
                · show Steps p.tables e below (s₁.setTop (mkF m 55 #[.val (.int p0), .unset] [(.int (65535 : Int32)), (.int p0)])) _
                  refine XS.icmpNo X0.here hx rfl (hb hby d3_55) rfl (teq (show p0 = (65535 : Int32) from hc55)).2 ?_
                  show Steps p.tables e below (s₁.setTop (mkF m 58 #[.val (.int p0), .unset] [])) _
                  refine XS.iconst X0.here hx rfl (hb hby d3_58) ?_
                  show Steps p.tables e below (s₁.setTop (mkF m 59 #[.val (.int p0), .unset] [(.int (1 : Int32))])) _
                  refine XS.goto X0.here hx rfl (pc0 := 59) (pc' := 63) rfl (hb hby d3_59) (by decide) (by decide) ?_
                  show Steps p.tables e below (s₁.setTop (mkF m 63 #[.val (.int p0), .unset] [(.int (1 : Int32))])) _
                  refine XS.istoreN X0.here hx rfl (hb hby d3_63) rfl (l' := #[.val (.int p0), .val (.int (1 : Int32))]) rfl ?_
                  show Steps p.tables e below (s₁.setTop (mkF m 64 #[.val (.int p0), .val (.int (1 : Int32))] [])) _
                  refine XS.iloadN X0.here hx rfl (hb hby d3_64) rfl ?_
                  show Steps p.tables e below (s₁.setTop (mkF m 65 #[.val (.int p0), .val (.int (1 : Int32))] [(.int (1 : Int32))])) _
                  refine XS.ifYes X0.here hx rfl (pc0 := 65) (pc' := 72) rfl (hb hby d3_65) rfl ((if0 _ _).trans (feq (show ¬ ((1 : Int32) = (0 : Int32)) from (by decide))).2) (by decide) (by decide) ?_
                  show Steps p.tables e below (s₁.setTop (mkF m 72 #[.val (.int p0), .val (.int (1 : Int32))] [])) _
                  refine XS.iconst X0.here hx rfl (hb hby d3_72) ?_
                  show Steps p.tables e below (s₁.setTop (mkF m 73 #[.val (.int p0), .val (.int (1 : Int32))] [(.int (0 : Int32))])) _
                  exact retN X0 hx (t := .boolean) Bd.returns (by simp) (hb hby d3_73) hr
                · show Q3 p0 h0 n0 _ s₁.heap _
                  rw [e0]
                  exact ⟨(by rw [exV, if_pos (by simp [eq_false hc1, eq_false hc7, eq_true hc13, eq_true hc19, eq_true hc37, eq_false hc49, eq_true hc55])]), N0, rfl⟩
              · obtain ⟨fs, hr, hrun, hended, hW, hsame⟩ := X0.leave (v := some (.int (1 : Int32))) (fun h => by rw [Bd.returns] at h; cases h)
                refine ⟨_, _, pre7 _ ?_, hrun, hended, _, _, rfl, ?_, ⟨_, rfl⟩, hW, hsame.mono (by decide) (by decide)⟩
                · show Steps p.tables e below (s₁.setTop (mkF m 55 #[.val (.int p0), .unset] [(.int (65535 : Int32)), (.int p0)])) _
                  refine XS.icmpYes X0.here hx rfl (pc0 := 55) (pc' := 62) rfl (hb hby d3_55) rfl (feq (show ¬ (p0 = (65535 : Int32)) from hc55)).2 (by decide) (by decide) ?_
                  show Steps p.tables e below (s₁.setTop (mkF m 62 #[.val (.int p0), .unset] [])) _
                  refine XS.iconst X0.here hx rfl (hb hby d3_62) ?_
                  show Steps p.tables e below (s₁.setTop (mkF m 63 #[.val (.int p0), .unset] [(.int (0 : Int32))])) _
                  refine XS.istoreN X0.here hx rfl (hb hby d3_63) rfl (l' := #[.val (.int p0), .val (.int (0 : Int32))]) rfl ?_
                  show Steps p.tables e below (s₁.setTop (mkF m 64 #[.val (.int p0), .val (.int (0 : Int32))] [])) _
                  refine XS.iloadN X0.here hx rfl (hb hby d3_64) rfl ?_
                  show Steps p.tables e below (s₁.setTop (mkF m 65 #[.val (.int p0), .val (.int (0 : Int32))] [(.int (0 : Int32))])) _
                  refine XS.ifNo X0.here hx rfl (hb hby d3_65) rfl ((if0 _ _).trans (teq (show (0 : Int32) = (0 : Int32) from (by decide))).2) ?_
                  show Steps p.tables e below (s₁.setTop (mkF m 68 #[.val (.int p0), .val (.int (0 : Int32))] [])) _
                  refine XS.iconst X0.here hx rfl (hb hby d3_68) ?_
                  show Steps p.tables e below (s₁.setTop (mkF m 69 #[.val (.int p0), .val (.int (0 : Int32))] [(.int (1 : Int32))])) _
                  refine XS.goto X0.here hx rfl (pc0 := 69) (pc' := 73) rfl (hb hby d3_69) (by decide) (by decide) ?_
                  show Steps p.tables e below (s₁.setTop (mkF m 73 #[.val (.int p0), .val (.int (0 : Int32))] [(.int (1 : Int32))])) _
                  exact retN X0 hx (t := .boolean) Bd.returns (by simp) (hb hby d3_73) hr
                · show Q3 p0 h0 n0 _ s₁.heap _
                  rw [e0]
                  exact ⟨(by rw [exV, if_neg (by simp [eq_false hc1, eq_false hc7, eq_true hc13, eq_true hc19, eq_true hc37, eq_false hc49, eq_false hc55])]), N0, rfl⟩
          · have pre8 : ∀ t, Steps p.tables e below (s₁.setTop (mkF m 43 #[.val (.int p0), .unset] [(.int (57343 : Int32)), (.int p0)])) t → Steps p.tables e below (s₁.setTop (entryFrame m #[(.int p0)] 2)) t := fun t kt => pre5 t (by
                show Steps p.tables e below (s₁.setTop (mkF m 37 #[.val (.int p0), .unset] [(.int (55296 : Int32)), (.int p0)])) _
                refine XS.icmpNo X0.here hx rfl (hb hby d3_37) rfl (flt (show ¬ (p0 < (55296 : Int32)) from hc37)).1 ?_
                show Steps p.tables e below (s₁.setTop (mkF m 40 #[.val (.int p0), .unset] [])) _
                refine XS.iloadN X0.here hx rfl (hb hby d3_40) rfl ?_
                show Steps p.tables e below (s₁.setTop (mkF m 41 #[.val (.int p0), .unset] [(.int p0)])) _
                refine X0.ldcI hx hown (mvT hZ (hw _ (List.mem_of_getElem? (i := 8) rfl))) (g := (mkF m 41 #[.val (.int p0), .unset] [(.int p0)])) rfl (hb hby d3_41) ?_
                exact kt)
            by_cases hc43 : (57343 : Int32) < p0
            · have pre9 : ∀ t, Steps p.tables e below (s₁.setTop (mkF m 49 #[.val (.int p0), .unset] [(.int (65534 : Int32)), (.int p0)])) t → Steps p.tables e below (s₁.setTop (entryFrame m #[(.int p0)] 2)) t := fun t kt => pre8 t (by
                  show Steps p.tables e below (s₁.setTop (mkF m 43 #[.val (.int p0), .unset] [(.int (57343 : Int32)), (.int p0)])) _
                  refine XS.icmpNo X0.here hx rfl (hb hby d3_43) rfl (tlt (show (57343 : Int32) < p0 from hc43)).2.2.2 ?_
                  show Steps p.tables e below (s₁.setTop (mkF m 46 #[.val (.int p0), .unset] [])) _
                  refine XS.iloadN X0.here hx rfl (hb hby d3_46) rfl ?_
                  show Steps p.tables e below (s₁.setTop (mkF m 47 #[.val (.int p0), .unset] [(.int p0)])) _
                  refine X0.ldcI hx hown (mvT hZ (hw _ (List.mem_of_getElem? (i := 11) rfl))) (g := (mkF m 47 #[.val (.int p0), .unset] [(.int p0)])) rfl (hb hby d3_47) ?_
                  exact kt)
              by_cases hc49 : p0 = (65534 : Int32)
              · obtain ⟨fs, hr, hrun, hended, hW, hsame⟩ := X0.leave (v := some (.int (0 : Int32))) (fun h => by rw [Bd.returns] at h; cases h)
                refine ⟨_, _, pre9 _ ?_, hrun, hended, _, _, rfl, ?_, ⟨_, rfl⟩, hW, hsame.mono (by decide) (by decide)⟩
                · show Steps p.tables e below (s₁.setTop (mkF m 49 #[.val (.int p0), .unset] [(.int (65534 : Int32)), (.int p0)])) _
                  refine XS.icmpYes X0.here hx rfl (pc0 := 49) (pc' := 58) rfl (hb hby d3_49) rfl (teq (show p0 = (65534 : Int32) from hc49)).1 (by decide) (by decide) ?_
                  show Steps p.tables e below (s₁.setTop (mkF m 58 #[.val (.int p0), .unset] [])) _
                  refine XS.iconst X0.here hx rfl (hb hby d3_58) ?_
                  show Steps p.tables e below (s₁.setTop (mkF m 59 #[.val (.int p0), .unset] [(.int (1 : Int32))])) _
                  refine XS.goto X0.here hx rfl (pc0 := 59) (pc' := 63) rfl (hb hby d3_59) (by decide) (by decide) ?_
                  show Steps p.tables e below (s₁.setTop (mkF m 63 #[.val (.int p0), .unset] [(.int (1 : Int32))])) _
                  refine XS.istoreN X0.here hx rfl (hb hby d3_63) rfl (l' := #[.val (.int p0), .val (.int (1 : Int32))]) rfl ?_
                  show Steps p.tables e below (s₁.setTop (mkF m 64 #[.val (.int p0), .val (.int (1 : Int32))] [])) _
                  refine XS.iloadN X0.here hx rfl (hb hby d3_64) rfl ?_
                  show Steps p.tables e below (s₁.setTop (mkF m 65 #[.val (.int p0), .val (.int (1 : Int32))] [(.int (1 : Int32))])) _
                  refine XS.ifYes X0.here hx rfl (pc0 := 65) (pc' := 72) rfl (hb hby d3_65) rfl ((if0 _ _).trans (feq (show ¬ ((1 : Int32) = (0 : Int32)) from (by decide))).2) (by decide) (by decide) ?_
                  show Steps p.tables e below (s₁.setTop (mkF m 72 #[.val (.int p0), .val (.int (1 : Int32))] [])) _
                  refine XS.iconst X0.here hx rfl (hb hby d3_72) ?_
                  show Steps p.tables e below (s₁.setTop (mkF m 73 #[.val (.int p0), .val (.int (1 : Int32))] [(.int (0 : Int32))])) _
                  exact retN X0 hx (t := .boolean) Bd.returns (by simp) (hb hby d3_73) hr
                · show Q3 p0 h0 n0 _ s₁.heap _
                  rw [e0]
                  exact ⟨(by rw [exV, if_pos (by simp [eq_false hc1, eq_false hc7, eq_true hc13, eq_true hc19, eq_false hc37, eq_true hc43, eq_true hc49])]), N0, rfl⟩
              · have pre10 : ∀ t, Steps p.tables e below (s₁.setTop (mkF m 55 #[.val (.int p0), .unset] [(.int (65535 : Int32)), (.int p0)])) t → Steps p.tables e below (s₁.setTop (entryFrame m #[(.int p0)] 2)) t := fun t kt => pre9 t (by
                    show Steps p.tables e below (s₁.setTop (mkF m 49 #[.val (.int p0), .unset] [(.int (65534 : Int32)), (.int p0)])) _
                    refine XS.icmpNo X0.here hx rfl (hb hby d3_49) rfl (feq (show ¬ (p0 = (65534 : Int32)) from hc49)).1 ?_
                    show Steps p.tables e below (s₁.setTop (mkF m 52 #[.val (.int p0), .unset] [])) _
                    refine XS.iloadN X0.here hx rfl (hb hby d3_52) rfl ?_
                    show Steps p.tables e below (s₁.setTop (mkF m 53 #[.val (.int p0), .unset] [(.int p0)])) _
                    refine X0.ldcI hx hown (mvT hZ (hw _ (List.mem_of_getElem? (i := 12) rfl))) (g := (mkF m 53 #[.val (.int p0), .unset] [(.int p0)])) rfl (hb hby d3_53) ?_
                    exact kt)
                by_cases hc55 : p0 = (65535 : Int32)
                · obtain ⟨fs, hr, hrun, hended, hW, hsame⟩ := X0.leave (v := some (.int (0 : Int32))) (fun h => by rw [Bd.returns] at h; cases h)
                  refine ⟨_, _, pre10 _ ?_, hrun, hended, _, _, rfl, ?_, ⟨_, rfl⟩, hW, hsame.mono (by decide) (by decide)⟩
                  · show Steps p.tables e below (s₁.setTop (mkF m 55 #[.val (.int p0), .unset] [(.int (65535 : Int32)), (.int p0)])) _
                    refine XS.icmpNo X0.here hx rfl (hb hby d3_55) rfl (teq (show p0 = (65535 : Int32) from hc55)).2 ?_
                    show Steps p.tables e below (s₁.setTop (mkF m 58 #[.val (.int p0), .unset] [])) _
                    refine XS.iconst X0.here hx rfl (hb hby d3_58) ?_
                    show Steps p.tables e below (s₁.setTop (mkF m 59 #[.val (.int p0), .unset] [(.int (1 : Int32))])) _
                    refine XS.goto X0.here hx rfl (pc0 := 59) (pc' := 63) rfl (hb hby d3_59) (by decide) (by decide) ?_
                    show Steps p.tables e below (s₁.setTop (mkF m 63 #[.val (.int p0), .unset] [(.int (1 : Int32))])) _
                    refine XS.istoreN X0.here hx rfl (hb hby d3_63) rfl (l' := #[.val (.int p0), .val (.int (1 : Int32))]) rfl ?_
                    show Steps p.tables e below (s₁.setTop (mkF m 64 #[.val (.int p0), .val (.int (1 : Int32))] [])) _
                    refine XS.iloadN X0.here hx rfl (hb hby d3_64) rfl ?_
                    show Steps p.tables e below (s₁.setTop (mkF m 65 #[.val (.int p0), .val (.int (1 : Int32))] [(.int (1 : Int32))])) _
                    refine XS.ifYes X0.here hx rfl (pc0 := 65) (pc' := 72) rfl (hb hby d3_65) rfl ((if0 _ _).trans (feq (show ¬ ((1 : Int32) = (0 : Int32)) from (by decide))).2) (by decide) (by decide) ?_
                    show Steps p.tables e below (s₁.setTop (mkF m 72 #[.val (.int p0), .val (.int (1 : Int32))] [])) _
                    refine XS.iconst X0.here hx rfl (hb hby d3_72) ?_
                    show Steps p.tables e below (s₁.setTop (mkF m 73 #[.val (.int p0), .val (.int (1 : Int32))] [(.int (0 : Int32))])) _
                    exact retN X0 hx (t := .boolean) Bd.returns (by simp) (hb hby d3_73) hr
                  · show Q3 p0 h0 n0 _ s₁.heap _
                    rw [e0]
                    exact ⟨(by rw [exV, if_pos (by simp [eq_false hc1, eq_false hc7, eq_true hc13, eq_true hc19, eq_false hc37, eq_true hc43, eq_false hc49, eq_true hc55])]), N0, rfl⟩
                · obtain ⟨fs, hr, hrun, hended, hW, hsame⟩ := X0.leave (v := some (.int (1 : Int32))) (fun h => by rw [Bd.returns] at h; cases h)
                  refine ⟨_, _, pre10 _ ?_, hrun, hended, _, _, rfl, ?_, ⟨_, rfl⟩, hW, hsame.mono (by decide) (by decide)⟩
                  · show Steps p.tables e below (s₁.setTop (mkF m 55 #[.val (.int p0), .unset] [(.int (65535 : Int32)), (.int p0)])) _
                    refine XS.icmpYes X0.here hx rfl (pc0 := 55) (pc' := 62) rfl (hb hby d3_55) rfl (feq (show ¬ (p0 = (65535 : Int32)) from hc55)).2 (by decide) (by decide) ?_
                    show Steps p.tables e below (s₁.setTop (mkF m 62 #[.val (.int p0), .unset] [])) _
                    refine XS.iconst X0.here hx rfl (hb hby d3_62) ?_
                    show Steps p.tables e below (s₁.setTop (mkF m 63 #[.val (.int p0), .unset] [(.int (0 : Int32))])) _
                    refine XS.istoreN X0.here hx rfl (hb hby d3_63) rfl (l' := #[.val (.int p0), .val (.int (0 : Int32))]) rfl ?_
                    show Steps p.tables e below (s₁.setTop (mkF m 64 #[.val (.int p0), .val (.int (0 : Int32))] [])) _
                    refine XS.iloadN X0.here hx rfl (hb hby d3_64) rfl ?_
                    show Steps p.tables e below (s₁.setTop (mkF m 65 #[.val (.int p0), .val (.int (0 : Int32))] [(.int (0 : Int32))])) _
                    refine XS.ifNo X0.here hx rfl (hb hby d3_65) rfl ((if0 _ _).trans (teq (show (0 : Int32) = (0 : Int32) from (by decide))).2) ?_
                    show Steps p.tables e below (s₁.setTop (mkF m 68 #[.val (.int p0), .val (.int (0 : Int32))] [])) _
                    refine XS.iconst X0.here hx rfl (hb hby d3_68) ?_
                    show Steps p.tables e below (s₁.setTop (mkF m 69 #[.val (.int p0), .val (.int (0 : Int32))] [(.int (1 : Int32))])) _
                    refine XS.goto X0.here hx rfl (pc0 := 69) (pc' := 73) rfl (hb hby d3_69) (by decide) (by decide) ?_
                    show Steps p.tables e below (s₁.setTop (mkF m 73 #[.val (.int p0), .val (.int (0 : Int32))] [(.int (1 : Int32))])) _
                    exact retN X0 hx (t := .boolean) Bd.returns (by simp) (hb hby d3_73) hr
                  · show Q3 p0 h0 n0 _ s₁.heap _
                    rw [e0]
                    exact ⟨(by rw [exV, if_neg (by simp [eq_false hc1, eq_false hc7, eq_true hc13, eq_true hc19, eq_false hc37, eq_true hc43, eq_false hc49, eq_false hc55])]), N0, rfl⟩
            · obtain ⟨fs, hr, hrun, hended, hW, hsame⟩ := X0.leave (v := some (.int (0 : Int32))) (fun h => by rw [Bd.returns] at h; cases h)
              refine ⟨_, _, pre8 _ ?_, hrun, hended, _, _, rfl, ?_, ⟨_, rfl⟩, hW, hsame.mono (by decide) (by decide)⟩
              · show Steps p.tables e below (s₁.setTop (mkF m 43 #[.val (.int p0), .unset] [(.int (57343 : Int32)), (.int p0)])) _
                refine XS.icmpYes X0.here hx rfl (pc0 := 43) (pc' := 58) rfl (hb hby d3_43) rfl (flt (show ¬ ((57343 : Int32) < p0) from hc43)).2.2.2 (by decide) (by decide) ?_
                show Steps p.tables e below (s₁.setTop (mkF m 58 #[.val (.int p0), .unset] [])) _
                refine XS.iconst X0.here hx rfl (hb hby d3_58) ?_
                show Steps p.tables e below (s₁.setTop (mkF m 59 #[.val (.int p0), .unset] [(.int (1 : Int32))])) _
                refine XS.goto X0.here hx rfl (pc0 := 59) (pc' := 63) rfl (hb hby d3_59) (by decide) (by decide) ?_
                show Steps p.tables e below (s₁.setTop (mkF m 63 #[.val (.int p0), .unset] [(.int (1 : Int32))])) _
                refine XS.istoreN X0.here hx rfl (hb hby d3_63) rfl (l' := #[.val (.int p0), .val (.int (1 : Int32))]) rfl ?_
                show Steps p.tables e below (s₁.setTop (mkF m 64 #[.val (.int p0), .val (.int (1 : Int32))] [])) _
                refine XS.iloadN X0.here hx rfl (hb hby d3_64) rfl ?_
                show Steps p.tables e below (s₁.setTop (mkF m 65 #[.val (.int p0), .val (.int (1 : Int32))] [(.int (1 : Int32))])) _
                refine XS.ifYes X0.here hx rfl (pc0 := 65) (pc' := 72) rfl (hb hby d3_65) rfl ((if0 _ _).trans (feq (show ¬ ((1 : Int32) = (0 : Int32)) from (by decide))).2) (by decide) (by decide) ?_
                show Steps p.tables e below (s₁.setTop (mkF m 72 #[.val (.int p0), .val (.int (1 : Int32))] [])) _
                refine XS.iconst X0.here hx rfl (hb hby d3_72) ?_
                show Steps p.tables e below (s₁.setTop (mkF m 73 #[.val (.int p0), .val (.int (1 : Int32))] [(.int (0 : Int32))])) _
                exact retN X0 hx (t := .boolean) Bd.returns (by simp) (hb hby d3_73) hr
              · show Q3 p0 h0 n0 _ s₁.heap _
                rw [e0]
                exact ⟨(by rw [exV, if_pos (by simp [eq_false hc1, eq_false hc7, eq_true hc13, eq_true hc19, eq_false hc37, eq_false hc43])]), N0, rfl⟩
        · have pre11 : ∀ t, Steps p.tables e below (s₁.setTop (mkF m 25 #[.val (.int p0), .unset] [(.int (10 : Int32)), (.int p0)])) t → Steps p.tables e below (s₁.setTop (entryFrame m #[(.int p0)] 2)) t := fun t kt => pre4 t (by
              show Steps p.tables e below (s₁.setTop (mkF m 19 #[.val (.int p0), .unset] [(.int (9 : Int32)), (.int p0)])) _
              refine XS.icmpNo X0.here hx rfl (hb hby d3_19) rfl (feq (show ¬ (p0 = (9 : Int32)) from hc19)).1 ?_
              show Steps p.tables e below (s₁.setTop (mkF m 22 #[.val (.int p0), .unset] [])) _
              refine XS.iloadN X0.here hx rfl (hb hby d3_22) rfl ?_
              show Steps p.tables e below (s₁.setTop (mkF m 23 #[.val (.int p0), .unset] [(.int p0)])) _
              refine XS.bipush X0.here hx rfl (hb hby d3_23) ?_
              exact kt)
          by_cases hc25 : p0 = (10 : Int32)
          · have pre12 : ∀ t, Steps p.tables e below (s₁.setTop (mkF m 37 #[.val (.int p0), .unset] [(.int (55296 : Int32)), (.int p0)])) t → Steps p.tables e below (s₁.setTop (entryFrame m #[(.int p0)] 2)) t := fun t kt => pre11 t (by
                show Steps p.tables e below (s₁.setTop (mkF m 25 #[.val (.int p0), .unset] [(.int (10 : Int32)), (.int p0)])) _
                refine XS.icmpYes X0.here hx rfl (pc0 := 25) (pc' := 34) rfl (hb hby d3_25) rfl (teq (show p0 = (10 : Int32) from hc25)).1 (by decide) (by decide) ?_
                show Steps p.tables e below (s₁.setTop (mkF m 34 #[.val (.int p0), .unset] [])) _
                refine XS.iloadN X0.here hx rfl (hb hby d3_34) rfl ?_
                show Steps p.tables e below (s₁.setTop (mkF m 35 #[.val (.int p0), .unset] [(.int p0)])) _
                refine X0.ldcI hx hown (mvT hZ (hw _ (List.mem_of_getElem? (i := 7) rfl))) (g := (mkF m 35 #[.val (.int p0), .unset] [(.int p0)])) rfl (hb hby d3_35) ?_
                exact kt)
            by_cases hc37 : p0 < (55296 : Int32)
            · have pre13 : ∀ t, Steps p.tables e below (s₁.setTop (mkF m 49 #[.val (.int p0), .unset] [(.int (65534 : Int32)), (.int p0)])) t → Steps p.tables e below (s₁.setTop (entryFrame m #[(.int p0)] 2)) t := fun t kt => pre12 t (by
                  show Steps p.tables e below (s₁.setTop (mkF m 37 #[.val (.int p0), .unset] [(.int (55296 : Int32)), (.int p0)])) _
                  refine XS.icmpYes X0.here hx rfl (pc0 := 37) (pc' := 46) rfl (hb hby d3_37) rfl (tlt (show p0 < (55296 : Int32) from hc37)).1 (by decide) (by decide) ?_
                  show Steps p.tables e below (s₁.setTop (mkF m 46 #[.val (.int p0), .unset] [])) _
                  refine XS.iloadN X0.here hx rfl (hb hby d3_46) rfl ?_
                  show Steps p.tables e below (s₁.setTop (mkF m 47 #[.val (.int p0), .unset] [(.int p0)])) _
                  refine X0.ldcI hx hown (mvT hZ (hw _ (List.mem_of_getElem? (i := 11) rfl))) (g := (mkF m 47 #[.val (.int p0), .unset] [(.int p0)])) rfl (hb hby d3_47) ?_
                  exact kt)
              by_cases hc49 : p0 = (65534 : Int32)
              · obtain ⟨fs, hr, hrun, hended, hW, hsame⟩ := X0.leave (v := some (.int (0 : Int32))) (fun h => by rw [Bd.returns] at h; cases h)
                refine ⟨_, _, pre13 _ ?_, hrun, hended, _, _, rfl, ?_, ⟨_, rfl⟩, hW, hsame.mono (by decide) (by decide)⟩
                · show Steps p.tables e below (s₁.setTop (mkF m 49 #[.val (.int p0), .unset] [(.int (65534 : Int32)), (.int p0)])) _
                  refine XS.icmpYes X0.here hx rfl (pc0 := 49) (pc' := 58) rfl (hb hby d3_49) rfl (teq (show p0 = (65534 : Int32) from hc49)).1 (by decide) (by decide) ?_
                  show Steps p.tables e below (s₁.setTop (mkF m 58 #[.val (.int p0), .unset] [])) _
                  refine XS.iconst X0.here hx rfl (hb hby d3_58) ?_
                  show Steps p.tables e below (s₁.setTop (mkF m 59 #[.val (.int p0), .unset] [(.int (1 : Int32))])) _
                  refine XS.goto X0.here hx rfl (pc0 := 59) (pc' := 63) rfl (hb hby d3_59) (by decide) (by decide) ?_
                  show Steps p.tables e below (s₁.setTop (mkF m 63 #[.val (.int p0), .unset] [(.int (1 : Int32))])) _
                  refine XS.istoreN X0.here hx rfl (hb hby d3_63) rfl (l' := #[.val (.int p0), .val (.int (1 : Int32))]) rfl ?_
                  show Steps p.tables e below (s₁.setTop (mkF m 64 #[.val (.int p0), .val (.int (1 : Int32))] [])) _
                  refine XS.iloadN X0.here hx rfl (hb hby d3_64) rfl ?_
                  show Steps p.tables e below (s₁.setTop (mkF m 65 #[.val (.int p0), .val (.int (1 : Int32))] [(.int (1 : Int32))])) _
                  refine XS.ifYes X0.here hx rfl (pc0 := 65) (pc' := 72) rfl (hb hby d3_65) rfl ((if0 _ _).trans (feq (show ¬ ((1 : Int32) = (0 : Int32)) from (by decide))).2) (by decide) (by decide) ?_
                  show Steps p.tables e below (s₁.setTop (mkF m 72 #[.val (.int p0), .val (.int (1 : Int32))] [])) _
                  refine XS.iconst X0.here hx rfl (hb hby d3_72) ?_
                  show Steps p.tables e below (s₁.setTop (mkF m 73 #[.val (.int p0), .val (.int (1 : Int32))] [(.int (0 : Int32))])) _
                  exact retN X0 hx (t := .boolean) Bd.returns (by simp) (hb hby d3_73) hr
                · show Q3 p0 h0 n0 _ s₁.heap _
                  rw [e0]
                  exact ⟨(by rw [exV, if_pos (by simp [eq_false hc1, eq_false hc7, eq_true hc13, eq_false hc19, eq_true hc25, eq_true hc37, eq_true hc49])]), N0, rfl⟩
              · have pre14 : ∀ t, Steps p.tables e below (s₁.setTop (mkF m 55 #[.val (.int p0), .unset] [(.int (65535 : Int32)), (.int p0)])) t → Steps p.tables e below (s₁.setTop (entryFrame m #[(.int p0)] 2)) t := fun t kt => pre13 t (by
                    show Steps p.tables e below (s₁.setTop (mkF m 49 #[.val (.int p0), .unset] [(.int (65534 : Int32)), (.int p0)])) _
                    refine XS.icmpNo X0.here hx rfl (hb hby d3_49) rfl (feq (show ¬ (p0 = (65534 : Int32)) from hc49)).1 ?_
                    show Steps p.tables e below (s₁.setTop (mkF m 52 #[.val (.int p0), .unset] [])) _
                    refine XS.iloadN X0.here hx rfl (hb hby d3_52) rfl ?_
                    show Steps p.tables e below (s₁.setTop (mkF m 53 #[.val (.int p0), .unset] [(.int p0)])) _
                    refine X0.ldcI hx hown (mvT hZ (hw _ (List.mem_of_getElem? (i := 12) rfl))) (g := (mkF m 53 #[.val (.int p0), .unset] [(.int p0)])) rfl (hb hby d3_53) ?_
                    exact kt)
                by_cases hc55 : p0 = (65535 : Int32)
                · obtain ⟨fs, hr, hrun, hended, hW, hsame⟩ := X0.leave (v := some (.int (0 : Int32))) (fun h => by rw [Bd.returns] at h; cases h)
                  refine ⟨_, _, pre14 _ ?_, hrun, hended, _, _, rfl, ?_, ⟨_, rfl⟩, hW, hsame.mono (by decide) (by decide)⟩
                  · show Steps p.tables e below (s₁.setTop (mkF m 55 #[.val (.int p0), .unset] [(.int (65535 : Int32)), (.int p0)])) _
                    refine XS.icmpNo X0.here hx rfl (hb hby d3_55) rfl (teq (show p0 = (65535 : Int32) from hc55)).2 ?_
                    show Steps p.tables e below (s₁.setTop (mkF m 58 #[.val (.int p0), .unset] [])) _
                    refine XS.iconst X0.here hx rfl (hb hby d3_58) ?_
                    show Steps p.tables e below (s₁.setTop (mkF m 59 #[.val (.int p0), .unset] [(.int (1 : Int32))])) _
                    refine XS.goto X0.here hx rfl (pc0 := 59) (pc' := 63) rfl (hb hby d3_59) (by decide) (by decide) ?_
                    show Steps p.tables e below (s₁.setTop (mkF m 63 #[.val (.int p0), .unset] [(.int (1 : Int32))])) _
                    refine XS.istoreN X0.here hx rfl (hb hby d3_63) rfl (l' := #[.val (.int p0), .val (.int (1 : Int32))]) rfl ?_
                    show Steps p.tables e below (s₁.setTop (mkF m 64 #[.val (.int p0), .val (.int (1 : Int32))] [])) _
                    refine XS.iloadN X0.here hx rfl (hb hby d3_64) rfl ?_
                    show Steps p.tables e below (s₁.setTop (mkF m 65 #[.val (.int p0), .val (.int (1 : Int32))] [(.int (1 : Int32))])) _
                    refine XS.ifYes X0.here hx rfl (pc0 := 65) (pc' := 72) rfl (hb hby d3_65) rfl ((if0 _ _).trans (feq (show ¬ ((1 : Int32) = (0 : Int32)) from (by decide))).2) (by decide) (by decide) ?_
                    show Steps p.tables e below (s₁.setTop (mkF m 72 #[.val (.int p0), .val (.int (1 : Int32))] [])) _
                    refine XS.iconst X0.here hx rfl (hb hby d3_72) ?_
                    show Steps p.tables e below (s₁.setTop (mkF m 73 #[.val (.int p0), .val (.int (1 : Int32))] [(.int (0 : Int32))])) _
                    exact retN X0 hx (t := .boolean) Bd.returns (by simp) (hb hby d3_73) hr
                  · show Q3 p0 h0 n0 _ s₁.heap _
                    rw [e0]
                    exact ⟨(by rw [exV, if_pos (by simp [eq_false hc1, eq_false hc7, eq_true hc13, eq_false hc19, eq_true hc25, eq_true hc37, eq_false hc49, eq_true hc55])]), N0, rfl⟩
                · obtain ⟨fs, hr, hrun, hended, hW, hsame⟩ := X0.leave (v := some (.int (1 : Int32))) (fun h => by rw [Bd.returns] at h; cases h)
                  refine ⟨_, _, pre14 _ ?_, hrun, hended, _, _, rfl, ?_, ⟨_, rfl⟩, hW, hsame.mono (by decide) (by decide)⟩
                  · show Steps p.tables e below (s₁.setTop (mkF m 55 #[.val (.int p0), .unset] [(.int (65535 : Int32)), (.int p0)])) _
                    refine XS.icmpYes X0.here hx rfl (pc0 := 55) (pc' := 62) rfl (hb hby d3_55) rfl (feq (show ¬ (p0 = (65535 : Int32)) from hc55)).2 (by decide) (by decide) ?_
                    show Steps p.tables e below (s₁.setTop (mkF m 62 #[.val (.int p0), .unset] [])) _
                    refine XS.iconst X0.here hx rfl (hb hby d3_62) ?_
                    show Steps p.tables e below (s₁.setTop (mkF m 63 #[.val (.int p0), .unset] [(.int (0 : Int32))])) _
                    refine XS.istoreN X0.here hx rfl (hb hby d3_63) rfl (l' := #[.val (.int p0), .val (.int (0 : Int32))]) rfl ?_
                    show Steps p.tables e below (s₁.setTop (mkF m 64 #[.val (.int p0), .val (.int (0 : Int32))] [])) _
                    refine XS.iloadN X0.here hx rfl (hb hby d3_64) rfl ?_
                    show Steps p.tables e below (s₁.setTop (mkF m 65 #[.val (.int p0), .val (.int (0 : Int32))] [(.int (0 : Int32))])) _
                    refine XS.ifNo X0.here hx rfl (hb hby d3_65) rfl ((if0 _ _).trans (teq (show (0 : Int32) = (0 : Int32) from (by decide))).2) ?_
                    show Steps p.tables e below (s₁.setTop (mkF m 68 #[.val (.int p0), .val (.int (0 : Int32))] [])) _
                    refine XS.iconst X0.here hx rfl (hb hby d3_68) ?_
                    show Steps p.tables e below (s₁.setTop (mkF m 69 #[.val (.int p0), .val (.int (0 : Int32))] [(.int (1 : Int32))])) _
                    refine XS.goto X0.here hx rfl (pc0 := 69) (pc' := 73) rfl (hb hby d3_69) (by decide) (by decide) ?_
                    show Steps p.tables e below (s₁.setTop (mkF m 73 #[.val (.int p0), .val (.int (0 : Int32))] [(.int (1 : Int32))])) _
                    exact retN X0 hx (t := .boolean) Bd.returns (by simp) (hb hby d3_73) hr
                  · show Q3 p0 h0 n0 _ s₁.heap _
                    rw [e0]
                    exact ⟨(by rw [exV, if_neg (by simp [eq_false hc1, eq_false hc7, eq_true hc13, eq_false hc19, eq_true hc25, eq_true hc37, eq_false hc49, eq_false hc55])]), N0, rfl⟩
            · have pre15 : ∀ t, Steps p.tables e below (s₁.setTop (mkF m 43 #[.val (.int p0), .unset] [(.int (57343 : Int32)), (.int p0)])) t → Steps p.tables e below (s₁.setTop (entryFrame m #[(.int p0)] 2)) t := fun t kt => pre12 t (by
                  show Steps p.tables e below (s₁.setTop (mkF m 37 #[.val (.int p0), .unset] [(.int (55296 : Int32)), (.int p0)])) _
                  refine XS.icmpNo X0.here hx rfl (hb hby d3_37) rfl (flt (show ¬ (p0 < (55296 : Int32)) from hc37)).1 ?_
                  show Steps p.tables e below (s₁.setTop (mkF m 40 #[.val (.int p0), .unset] [])) _
                  refine XS.iloadN X0.here hx rfl (hb hby d3_40) rfl ?_
                  show Steps p.tables e below (s₁.setTop (mkF m 41 #[.val (.int p0), .unset] [(.int p0)])) _
                  refine X0.ldcI hx hown (mvT hZ (hw _ (List.mem_of_getElem? (i := 8) rfl))) (g := (mkF m 41 #[.val (.int p0), .unset] [(.int p0)])) rfl (hb hby d3_41) ?_
                  exact kt)
              by_cases hc43 : (57343 : Int32) < p0
              · have pre16 : ∀ t, Steps p.tables e below (s₁.setTop (mkF m 49 #[.val (.int p0), .unset] [(.int (65534 : Int32)), (.int p0)])) t → Steps p.tables e below (s₁.setTop (entryFrame m #[(.int p0)] 2)) t := fun t kt => pre15 t (by
                    show Steps p.tables e below (s₁.setTop (mkF m 43 #[.val (.int p0), .unset] [(.int (57343 : Int32)), (.int p0)])) _
                    refine XS.icmpNo X0.here hx rfl (hb hby d3_43) rfl (tlt (show (57343 : Int32) < p0 from hc43)).2.2.2 ?_
                    show Steps p.tables e below (s₁.setTop (mkF m 46 #[.val (.int p0), .unset] [])) _
                    refine XS.iloadN X0.here hx rfl (hb hby d3_46) rfl ?_
                    show Steps p.tables e below (s₁.setTop (mkF m 47 #[.val (.int p0), .unset] [(.int p0)])) _
                    refine X0.ldcI hx hown (mvT hZ (hw _ (List.mem_of_getElem? (i := 11) rfl))) (g := (mkF m 47 #[.val (.int p0), .unset] [(.int p0)])) rfl (hb hby d3_47) ?_
                    exact kt)
                by_cases hc49 : p0 = (65534 : Int32)
                · obtain ⟨fs, hr, hrun, hended, hW, hsame⟩ := X0.leave (v := some (.int (0 : Int32))) (fun h => by rw [Bd.returns] at h; cases h)
                  refine ⟨_, _, pre16 _ ?_, hrun, hended, _, _, rfl, ?_, ⟨_, rfl⟩, hW, hsame.mono (by decide) (by decide)⟩
                  · show Steps p.tables e below (s₁.setTop (mkF m 49 #[.val (.int p0), .unset] [(.int (65534 : Int32)), (.int p0)])) _
                    refine XS.icmpYes X0.here hx rfl (pc0 := 49) (pc' := 58) rfl (hb hby d3_49) rfl (teq (show p0 = (65534 : Int32) from hc49)).1 (by decide) (by decide) ?_
                    show Steps p.tables e below (s₁.setTop (mkF m 58 #[.val (.int p0), .unset] [])) _
                    refine XS.iconst X0.here hx rfl (hb hby d3_58) ?_
                    show Steps p.tables e below (s₁.setTop (mkF m 59 #[.val (.int p0), .unset] [(.int (1 : Int32))])) _
                    refine XS.goto X0.here hx rfl (pc0 := 59) (pc' := 63) rfl (hb hby d3_59) (by decide) (by decide) ?_
                    show Steps p.tables e below (s₁.setTop (mkF m 63 #[.val (.int p0), .unset] [(.int (1 : Int32))])) _
                    refine XS.istoreN X0.here hx rfl (hb hby d3_63) rfl (l' := #[.val (.int p0), .val (.int (1 : Int32))]) rfl ?_
                    show Steps p.tables e below (s₁.setTop (mkF m 64 #[.val (.int p0), .val (.int (1 : Int32))] [])) _
                    refine XS.iloadN X0.here hx rfl (hb hby d3_64) rfl ?_
                    show Steps p.tables e below (s₁.setTop (mkF m 65 #[.val (.int p0), .val (.int (1 : Int32))] [(.int (1 : Int32))])) _
                    refine XS.ifYes X0.here hx rfl (pc0 := 65) (pc' := 72) rfl (hb hby d3_65) rfl ((if0 _ _).trans (feq (show ¬ ((1 : Int32) = (0 : Int32)) from (by decide))).2) (by decide) (by decide) ?_
                    show Steps p.tables e below (s₁.setTop (mkF m 72 #[.val (.int p0), .val (.int (1 : Int32))] [])) _
                    refine XS.iconst X0.here hx rfl (hb hby d3_72) ?_
                    show Steps p.tables e below (s₁.setTop (mkF m 73 #[.val (.int p0), .val (.int (1 : Int32))] [(.int (0 : Int32))])) _
                    exact retN X0 hx (t := .boolean) Bd.returns (by simp) (hb hby d3_73) hr
                  · show Q3 p0 h0 n0 _ s₁.heap _
                    rw [e0]
                    exact ⟨(by rw [exV, if_pos (by simp [eq_false hc1, eq_false hc7, eq_true hc13, eq_false hc19, eq_true hc25, eq_false hc37, eq_true hc43, eq_true hc49])]), N0, rfl⟩
                · have pre17 : ∀ t, Steps p.tables e below (s₁.setTop (mkF m 55 #[.val (.int p0), .unset] [(.int (65535 : Int32)), (.int p0)])) t → Steps p.tables e below (s₁.setTop (entryFrame m #[(.int p0)] 2)) t := fun t kt => pre16 t (by
                      show Steps p.tables e below (s₁.setTop (mkF m 49 #[.val (.int p0), .unset] [(.int (65534 : Int32)), (.int p0)])) _
                      refine XS.icmpNo X0.here hx rfl (hb hby d3_49) rfl (feq (show ¬ (p0 = (65534 : Int32)) from hc49)).1 ?_
                      show Steps p.tables e below (s₁.setTop (mkF m 52 #[.val (.int p0), .unset] [])) _
                      refine XS.iloadN X0.here hx rfl (hb hby d3_52) rfl ?_
                      show Steps p.tables e below (s₁.setTop (mkF m 53 #[.val (.int p0), .unset] [(.int p0)])) _
                      refine X0.ldcI hx hown (mvT hZ (hw _ (List.mem_of_getElem? (i := 12) rfl))) (g := (mkF m 53 #[.val (.int p0), .unset] [(.int p0)])) rfl (hb hby d3_53) ?_
                      exact kt)
                  by_cases hc55 : p0 = (65535 : Int32)
                  · obtain ⟨fs, hr, hrun, hended, hW, hsame⟩ := X0.leave (v := some (.int (0 : Int32))) (fun h => by rw [Bd.returns] at h; cases h)
                    refine ⟨_, _, pre17 _ ?_, hrun, hended, _, _, rfl, ?_, ⟨_, rfl⟩, hW, hsame.mono (by decide) (by decide)⟩
                    · show Steps p.tables e below (s₁.setTop (mkF m 55 #[.val (.int p0), .unset] [(.int (65535 : Int32)), (.int p0)])) _
                      refine XS.icmpNo X0.here hx rfl (hb hby d3_55) rfl (teq (show p0 = (65535 : Int32) from hc55)).2 ?_
                      show Steps p.tables e below (s₁.setTop (mkF m 58 #[.val (.int p0), .unset] [])) _
                      refine XS.iconst X0.here hx rfl (hb hby d3_58) ?_
                      show Steps p.tables e below (s₁.setTop (mkF m 59 #[.val (.int p0), .unset] [(.int (1 : Int32))])) _
                      refine XS.goto X0.here hx rfl (pc0 := 59) (pc' := 63) rfl (hb hby d3_59) (by decide) (by decide) ?_
                      show Steps p.tables e below (s₁.setTop (mkF m 63 #[.val (.int p0), .unset] [(.int (1 : Int32))])) _
                      refine XS.istoreN X0.here hx rfl (hb hby d3_63) rfl (l' := #[.val (.int p0), .val (.int (1 : Int32))]) rfl ?_
                      show Steps p.tables e below (s₁.setTop (mkF m 64 #[.val (.int p0), .val (.int (1 : Int32))] [])) _
                      refine XS.iloadN X0.here hx rfl (hb hby d3_64) rfl ?_
                      show Steps p.tables e below (s₁.setTop (mkF m 65 #[.val (.int p0), .val (.int (1 : Int32))] [(.int (1 : Int32))])) _
                      refine XS.ifYes X0.here hx rfl (pc0 := 65) (pc' := 72) rfl (hb hby d3_65) rfl ((if0 _ _).trans (feq (show ¬ ((1 : Int32) = (0 : Int32)) from (by decide))).2) (by decide) (by decide) ?_
                      show Steps p.tables e below (s₁.setTop (mkF m 72 #[.val (.int p0), .val (.int (1 : Int32))] [])) _
                      refine XS.iconst X0.here hx rfl (hb hby d3_72) ?_
                      show Steps p.tables e below (s₁.setTop (mkF m 73 #[.val (.int p0), .val (.int (1 : Int32))] [(.int (0 : Int32))])) _
                      exact retN X0 hx (t := .boolean) Bd.returns (by simp) (hb hby d3_73) hr
                    · show Q3 p0 h0 n0 _ s₁.heap _
                      rw [e0]
                      exact ⟨(by rw [exV, if_pos (by simp [eq_false hc1, eq_false hc7, eq_true hc13, eq_false hc19, eq_true hc25, eq_false hc37, eq_true hc43, eq_false hc49, eq_true hc55])]), N0, rfl⟩
                  · obtain ⟨fs, hr, hrun, hended, hW, hsame⟩ := X0.leave (v := some (.int (1 : Int32))) (fun h => by rw [Bd.returns] at h; cases h)
                    refine ⟨_, _, pre17 _ ?_, hrun, hended, _, _, rfl, ?_, ⟨_, rfl⟩, hW, hsame.mono (by decide) (by decide)⟩
                    · show Steps p.tables e below (s₁.setTop (mkF m 55 #[.val (.int p0), .unset] [(.int (65535 : Int32)), (.int p0)])) _
                      refine XS.icmpYes X0.here hx rfl (pc0 := 55) (pc' := 62) rfl (hb hby d3_55) rfl (feq (show ¬ (p0 = (65535 : Int32)) from hc55)).2 (by decide) (by decide) ?_
                      show Steps p.tables e below (s₁.setTop (mkF m 62 #[.val (.int p0), .unset] [])) _
                      refine XS.iconst X0.here hx rfl (hb hby d3_62) ?_
                      show Steps p.tables e below (s₁.setTop (mkF m 63 #[.val (.int p0), .unset] [(.int (0 : Int32))])) _
                      refine XS.istoreN X0.here hx rfl (hb hby d3_63) rfl (l' := #[.val (.int p0), .val (.int (0 : Int32))]) rfl ?_
                      show Steps p.tables e below (s₁.setTop (mkF m 64 #[.val (.int p0), .val (.int (0 : Int32))] [])) _
                      refine XS.iloadN X0.here hx rfl (hb hby d3_64) rfl ?_
                      show Steps p.tables e below (s₁.setTop (mkF m 65 #[.val (.int p0), .val (.int (0 : Int32))] [(.int (0 : Int32))])) _
                      refine XS.ifNo X0.here hx rfl (hb hby d3_65) rfl ((if0 _ _).trans (teq (show (0 : Int32) = (0 : Int32) from (by decide))).2) ?_
                      show Steps p.tables e below (s₁.setTop (mkF m 68 #[.val (.int p0), .val (.int (0 : Int32))] [])) _
                      refine XS.iconst X0.here hx rfl (hb hby d3_68) ?_
                      show Steps p.tables e below (s₁.setTop (mkF m 69 #[.val (.int p0), .val (.int (0 : Int32))] [(.int (1 : Int32))])) _
                      refine XS.goto X0.here hx rfl (pc0 := 69) (pc' := 73) rfl (hb hby d3_69) (by decide) (by decide) ?_
                      show Steps p.tables e below (s₁.setTop (mkF m 73 #[.val (.int p0), .val (.int (0 : Int32))] [(.int (1 : Int32))])) _
                      exact retN X0 hx (t := .boolean) Bd.returns (by simp) (hb hby d3_73) hr
                    · show Q3 p0 h0 n0 _ s₁.heap _
                      rw [e0]
                      exact ⟨(by rw [exV, if_neg (by simp [eq_false hc1, eq_false hc7, eq_true hc13, eq_false hc19, eq_true hc25, eq_false hc37, eq_true hc43, eq_false hc49, eq_false hc55])]), N0, rfl⟩
              · obtain ⟨fs, hr, hrun, hended, hW, hsame⟩ := X0.leave (v := some (.int (0 : Int32))) (fun h => by rw [Bd.returns] at h; cases h)
                refine ⟨_, _, pre15 _ ?_, hrun, hended, _, _, rfl, ?_, ⟨_, rfl⟩, hW, hsame.mono (by decide) (by decide)⟩
                · show Steps p.tables e below (s₁.setTop (mkF m 43 #[.val (.int p0), .unset] [(.int (57343 : Int32)), (.int p0)])) _
                  refine XS.icmpYes X0.here hx rfl (pc0 := 43) (pc' := 58) rfl (hb hby d3_43) rfl (flt (show ¬ ((57343 : Int32) < p0) from hc43)).2.2.2 (by decide) (by decide) ?_
                  show Steps p.tables e below (s₁.setTop (mkF m 58 #[.val (.int p0), .unset] [])) _
                  refine XS.iconst X0.here hx rfl (hb hby d3_58) ?_
                  show Steps p.tables e below (s₁.setTop (mkF m 59 #[.val (.int p0), .unset] [(.int (1 : Int32))])) _
                  refine XS.goto X0.here hx rfl (pc0 := 59) (pc' := 63) rfl (hb hby d3_59) (by decide) (by decide) ?_
                  show Steps p.tables e below (s₁.setTop (mkF m 63 #[.val (.int p0), .unset] [(.int (1 : Int32))])) _
                  refine XS.istoreN X0.here hx rfl (hb hby d3_63) rfl (l' := #[.val (.int p0), .val (.int (1 : Int32))]) rfl ?_
                  show Steps p.tables e below (s₁.setTop (mkF m 64 #[.val (.int p0), .val (.int (1 : Int32))] [])) _
                  refine XS.iloadN X0.here hx rfl (hb hby d3_64) rfl ?_
                  show Steps p.tables e below (s₁.setTop (mkF m 65 #[.val (.int p0), .val (.int (1 : Int32))] [(.int (1 : Int32))])) _
                  refine XS.ifYes X0.here hx rfl (pc0 := 65) (pc' := 72) rfl (hb hby d3_65) rfl ((if0 _ _).trans (feq (show ¬ ((1 : Int32) = (0 : Int32)) from (by decide))).2) (by decide) (by decide) ?_
                  show Steps p.tables e below (s₁.setTop (mkF m 72 #[.val (.int p0), .val (.int (1 : Int32))] [])) _
                  refine XS.iconst X0.here hx rfl (hb hby d3_72) ?_
                  show Steps p.tables e below (s₁.setTop (mkF m 73 #[.val (.int p0), .val (.int (1 : Int32))] [(.int (0 : Int32))])) _
                  exact retN X0 hx (t := .boolean) Bd.returns (by simp) (hb hby d3_73) hr
                · show Q3 p0 h0 n0 _ s₁.heap _
                  rw [e0]
                  exact ⟨(by rw [exV, if_pos (by simp [eq_false hc1, eq_false hc7, eq_true hc13, eq_false hc19, eq_true hc25, eq_false hc37, eq_false hc43])]), N0, rfl⟩
          · have pre18 : ∀ t, Steps p.tables e below (s₁.setTop (mkF m 31 #[.val (.int p0), .unset] [(.int (13 : Int32)), (.int p0)])) t → Steps p.tables e below (s₁.setTop (entryFrame m #[(.int p0)] 2)) t := fun t kt => pre11 t (by
                show Steps p.tables e below (s₁.setTop (mkF m 25 #[.val (.int p0), .unset] [(.int (10 : Int32)), (.int p0)])) _
                refine XS.icmpNo X0.here hx rfl (hb hby d3_25) rfl (feq (show ¬ (p0 = (10 : Int32)) from hc25)).1 ?_
                show Steps p.tables e below (s₁.setTop (mkF m 28 #[.val (.int p0), .unset] [])) _
                refine XS.iloadN X0.here hx rfl (hb hby d3_28) rfl ?_
                show Steps p.tables e below (s₁.setTop (mkF m 29 #[.val (.int p0), .unset] [(.int p0)])) _
                refine XS.bipush X0.here hx rfl (hb hby d3_29) ?_
                exact kt)
            by_cases hc31 : p0 = (13 : Int32)
            · have pre19 : ∀ t, Steps p.tables e below (s₁.setTop (mkF m 37 #[.val (.int p0), .unset] [(.int (55296 : Int32)), (.int p0)])) t → Steps p.tables e below (s₁.setTop (entryFrame m #[(.int p0)] 2)) t := fun t kt => pre18 t (by
                  show Steps p.tables e below (s₁.setTop (mkF m 31 #[.val (.int p0), .unset] [(.int (13 : Int32)), (.int p0)])) _
                  refine XS.icmpNo X0.here hx rfl (hb hby d3_31) rfl (teq (show p0 = (13 : Int32) from hc31)).2 ?_
                  show Steps p.tables e below (s₁.setTop (mkF m 34 #[.val (.int p0), .unset] [])) _
                  refine XS.iloadN X0.here hx rfl (hb hby d3_34) rfl ?_
                  show Steps p.tables e below (s₁.setTop (mkF m 35 #[.val (.int p0), .unset] [(.int p0)])) _
                  refine X0.ldcI hx hown (mvT hZ (hw _ (List.mem_of_getElem? (i := 7) rfl))) (g := (mkF m 35 #[.val (.int p0), .unset] [(.int p0)])) rfl (hb hby d3_35) ?_
                  exact kt)
              by_cases hc37 : p0 < (55296 : Int32)
              · have pre20 : ∀ t, Steps p.tables e below (s₁.setTop (mkF m 49 #[.val (.int p0), .unset] [(.int (65534 : Int32)), (.int p0)])) t → Steps p.tables e below (s₁.setTop (entryFrame m #[(.int p0)] 2)) t := fun t kt => pre19 t (by
                    show Steps p.tables e below (s₁.setTop (mkF m 37 #[.val (.int p0), .unset] [(.int (55296 : Int32)), (.int p0)])) _
                    refine XS.icmpYes X0.here hx rfl (pc0 := 37) (pc' := 46) rfl (hb hby d3_37) rfl (tlt (show p0 < (55296 : Int32) from hc37)).1 (by decide) (by decide) ?_
                    show Steps p.tables e below (s₁.setTop (mkF m 46 #[.val (.int p0), .unset] [])) _
                    refine XS.iloadN X0.here hx rfl (hb hby d3_46) rfl ?_
                    show Steps p.tables e below (s₁.setTop (mkF m 47 #[.val (.int p0), .unset] [(.int p0)])) _
                    refine X0.ldcI hx hown (mvT hZ (hw _ (List.mem_of_getElem? (i := 11) rfl))) (g := (mkF m 47 #[.val (.int p0), .unset] [(.int p0)])) rfl (hb hby d3_47) ?_
                    exact kt)
                by_cases hc49 : p0 = (65534 : Int32)
                · obtain ⟨fs, hr, hrun, hended, hW, hsame⟩ := X0.leave (v := some (.int (0 : Int32))) (fun h => by rw [Bd.returns] at h; cases h)
                  refine ⟨_, _, pre20 _ ?_, hrun, hended, _, _, rfl, ?_, ⟨_, rfl⟩, hW, hsame.mono (by decide) (by decide)⟩
                  · show Steps p.tables e below (s₁.setTop (mkF m 49 #[.val (.int p0), .unset] [(.int (65534 : Int32)), (.int p0)])) _
                    refine XS.icmpYes X0.here hx rfl (pc0 := 49) (pc' := 58) rfl (hb hby d3_49) rfl (teq (show p0 = (65534 : Int32) from hc49)).1 (by decide) (by decide) ?_
                    show Steps p.tables e below (s₁.setTop (mkF m 58 #[.val (.int p0), .unset] [])) _
                    refine XS.iconst X0.here hx rfl (hb hby d3_58) ?_
                    show Steps p.tables e below (s₁.setTop (mkF m 59 #[.val (.int p0), .unset] [(.int (1 : Int32))])) _
                    refine XS.goto X0.here hx rfl (pc0 := 59) (pc' := 63) rfl (hb hby d3_59) (by decide) (by decide) ?_
                    show Steps p.tables e below (s₁.setTop (mkF m 63 #[.val (.int p0), .unset] [(.int (1 : Int32))])) _
                    refine XS.istoreN X0.here hx rfl (hb hby d3_63) rfl (l' := #[.val (.int p0), .val (.int (1 : Int32))]) rfl ?_
                    show Steps p.tables e below (s₁.setTop (mkF m 64 #[.val (.int p0), .val (.int (1 : Int32))] [])) _
                    refine XS.iloadN X0.here hx rfl (hb hby d3_64) rfl ?_
                    show Steps p.tables e below (s₁.setTop (mkF m 65 #[.val (.int p0), .val (.int (1 : Int32))] [(.int (1 : Int32))])) _
                    refine XS.ifYes X0.here hx rfl (pc0 := 65) (pc' := 72) rfl (hb hby d3_65) rfl ((if0 _ _).trans (feq (show ¬ ((1 : Int32) = (0 : Int32)) from (by decide))).2) (by decide) (by decide) ?_
                    show Steps p.tables e below (s₁.setTop (mkF m 72 #[.val (.int p0), .val (.int (1 : Int32))] [])) _
                    refine XS.iconst X0.here hx rfl (hb hby d3_72) ?_
                    show Steps p.tables e below (s₁.setTop (mkF m 73 #[.val (.int p0), .val (.int (1 : Int32))] [(.int (0 : Int32))])) _
                    exact retN X0 hx (t := .boolean) Bd.returns (by simp) (hb hby d3_73) hr
                  · show Q3 p0 h0 n0 _ s₁.heap _
                    rw [e0]
                    exact ⟨(by rw [exV, if_pos (by simp [eq_false hc1, eq_false hc7, eq_true hc13, eq_false hc19, eq_false hc25, eq_true hc31, eq_true hc37, eq_true hc49])]), N0, rfl⟩
                · have pre21 : ∀ t, Steps p.tables e below (s₁.setTop (mkF m 55 #[.val (.int p0), .unset] [(.int (65535 : Int32)), (.int p0)])) t → Steps p.tables e below (s₁.setTop (entryFrame m #[(.int p0)] 2)) t := fun t kt => pre20 t (by
                      show Steps p.tables e below (s₁.setTop (mkF m 49 #[.val (.int p0), .unset] [(.int (65534 : Int32)), (.int p0)])) _
                      refine XS.icmpNo X0.here hx rfl (hb hby d3_49) rfl (feq (show ¬ (p0 = (65534 : Int32)) from hc49)).1 ?_
                      show Steps p.tables e below (s₁.setTop (mkF m 52 #[.val (.int p0), .unset] [])) _
                      refine XS.iloadN X0.here hx rfl (hb hby d3_52) rfl ?_
                      show Steps p.tables e below (s₁.setTop (mkF m 53 #[.val (.int p0), .unset] [(.int p0)])) _
                      refine X0.ldcI hx hown (mvT hZ (hw _ (List.mem_of_getElem? (i := 12) rfl))) (g := (mkF m 53 #[.val (.int p0), .unset] [(.int p0)])) rfl (hb hby d3_53) ?_
                      exact kt)
                  by_cases hc55 : p0 = (65535 : Int32)
                  · obtain ⟨fs, hr, hrun, hended, hW, hsame⟩ := X0.leave (v := some (.int (0 : Int32))) (fun h => by rw [Bd.returns] at h; cases h)
                    refine ⟨_, _, pre21 _ ?_, hrun, hended, _, _, rfl, ?_, ⟨_, rfl⟩, hW, hsame.mono (by decide) (by decide)⟩
                    · show Steps p.tables e below (s₁.setTop (mkF m 55 #[.val (.int p0), .unset] [(.int (65535 : Int32)), (.int p0)])) _
                      refine XS.icmpNo X0.here hx rfl (hb hby d3_55) rfl (teq (show p0 = (65535 : Int32) from hc55)).2 ?_
                      show Steps p.tables e below (s₁.setTop (mkF m 58 #[.val (.int p0), .unset] [])) _
                      refine XS.iconst X0.here hx rfl (hb hby d3_58) ?_
                      show Steps p.tables e below (s₁.setTop (mkF m 59 #[.val (.int p0), .unset] [(.int (1 : Int32))])) _
                      refine XS.goto X0.here hx rfl (pc0 := 59) (pc' := 63) rfl (hb hby d3_59) (by decide) (by decide) ?_
                      show Steps p.tables e below (s₁.setTop (mkF m 63 #[.val (.int p0), .unset] [(.int (1 : Int32))])) _
                      refine XS.istoreN X0.here hx rfl (hb hby d3_63) rfl (l' := #[.val (.int p0), .val (.int (1 : Int32))]) rfl ?_
                      show Steps p.tables e below (s₁.setTop (mkF m 64 #[.val (.int p0), .val (.int (1 : Int32))] [])) _
                      refine XS.iloadN X0.here hx rfl (hb hby d3_64) rfl ?_
                      show Steps p.tables e below (s₁.setTop (mkF m 65 #[.val (.int p0), .val (.int (1 : Int32))] [(.int (1 : Int32))])) _
                      refine XS.ifYes X0.here hx rfl (pc0 := 65) (pc' := 72) rfl (hb hby d3_65) rfl ((if0 _ _).trans (feq (show ¬ ((1 : Int32) = (0 : Int32)) from (by decide))).2) (by decide) (by decide) ?_
                      show Steps p.tables e below (s₁.setTop (mkF m 72 #[.val (.int p0), .val (.int (1 : Int32))] [])) _
                      refine XS.iconst X0.here hx rfl (hb hby d3_72) ?_
                      show Steps p.tables e below (s₁.setTop (mkF m 73 #[.val (.int p0), .val (.int (1 : Int32))] [(.int (0 : Int32))])) _
                      exact retN X0 hx (t := .boolean) Bd.returns (by simp) (hb hby d3_73) hr
                    · show Q3 p0 h0 n0 _ s₁.heap _
                      rw [e0]
                      exact ⟨(by rw [exV, if_pos (by simp [eq_false hc1, eq_false hc7, eq_true hc13, eq_false hc19, eq_false hc25, eq_true hc31, eq_true hc37, eq_false hc49, eq_true hc55])]), N0, rfl⟩
                  · obtain ⟨fs, hr, hrun, hended, hW, hsame⟩ := X0.leave (v := some (.int (1 : Int32))) (fun h => by rw [Bd.returns] at h; cases h)
                    refine ⟨_, _, pre21 _ ?_, hrun, hended, _, _, rfl, ?_, ⟨_, rfl⟩, hW, hsame.mono (by decide) (by decide)⟩
                    · show Steps p.tables e below (s₁.setTop (mkF m 55 #[.val (.int p0), .unset] [(.int (65535 : Int32)), (.int p0)])) _
                      refine XS.icmpYes X0.here hx rfl (pc0 := 55) (pc' := 62) rfl (hb hby d3_55) rfl (feq (show ¬ (p0 = (65535 : Int32)) from hc55)).2 (by decide) (by decide) ?_
                      show Steps p.tables e below (s₁.setTop (mkF m 62 #[.val (.int p0), .unset] [])) _
                      refine XS.iconst X0.here hx rfl (hb hby d3_62) ?_
                      show Steps p.tables e below (s₁.setTop (mkF m 63 #[.val (.int p0), .unset] [(.int (0 : Int32))])) _
                      refine XS.istoreN X0.here hx rfl (hb hby d3_63) rfl (l' := #[.val (.int p0), .val (.int (0 : Int32))]) rfl ?_
                      show Steps p.tables e below (s₁.setTop (mkF m 64 #[.val (.int p0), .val (.int (0 : Int32))] [])) _
                      refine XS.iloadN X0.here hx rfl (hb hby d3_64) rfl ?_
                      show Steps p.tables e below (s₁.setTop (mkF m 65 #[.val (.int p0), .val (.int (0 : Int32))] [(.int (0 : Int32))])) _
                      refine XS.ifNo X0.here hx rfl (hb hby d3_65) rfl ((if0 _ _).trans (teq (show (0 : Int32) = (0 : Int32) from (by decide))).2) ?_
                      show Steps p.tables e below (s₁.setTop (mkF m 68 #[.val (.int p0), .val (.int (0 : Int32))] [])) _
                      refine XS.iconst X0.here hx rfl (hb hby d3_68) ?_
                      show Steps p.tables e below (s₁.setTop (mkF m 69 #[.val (.int p0), .val (.int (0 : Int32))] [(.int (1 : Int32))])) _
                      refine XS.goto X0.here hx rfl (pc0 := 69) (pc' := 73) rfl (hb hby d3_69) (by decide) (by decide) ?_
                      show Steps p.tables e below (s₁.setTop (mkF m 73 #[.val (.int p0), .val (.int (0 : Int32))] [(.int (1 : Int32))])) _
                      exact retN X0 hx (t := .boolean) Bd.returns (by simp) (hb hby d3_73) hr
                    · show Q3 p0 h0 n0 _ s₁.heap _
                      rw [e0]
                      exact ⟨(by rw [exV, if_neg (by simp [eq_false hc1, eq_false hc7, eq_true hc13, eq_false hc19, eq_false hc25, eq_true hc31, eq_true hc37, eq_false hc49, eq_false hc55])]), N0, rfl⟩
              · have pre22 : ∀ t, Steps p.tables e below (s₁.setTop (mkF m 43 #[.val (.int p0), .unset] [(.int (57343 : Int32)), (.int p0)])) t → Steps p.tables e below (s₁.setTop (entryFrame m #[(.int p0)] 2)) t := fun t kt => pre19 t (by
                    show Steps p.tables e below (s₁.setTop (mkF m 37 #[.val (.int p0), .unset] [(.int (55296 : Int32)), (.int p0)])) _
                    refine XS.icmpNo X0.here hx rfl (hb hby d3_37) rfl (flt (show ¬ (p0 < (55296 : Int32)) from hc37)).1 ?_
                    show Steps p.tables e below (s₁.setTop (mkF m 40 #[.val (.int p0), .unset] [])) _
                    refine XS.iloadN X0.here hx rfl (hb hby d3_40) rfl ?_
                    show Steps p.tables e below (s₁.setTop (mkF m 41 #[.val (.int p0), .unset] [(.int p0)])) _
                    refine X0.ldcI hx hown (mvT hZ (hw _ (List.mem_of_getElem? (i := 8) rfl))) (g := (mkF m 41 #[.val (.int p0), .unset] [(.int p0)])) rfl (hb hby d3_41) ?_
                    exact kt)
                by_cases hc43 : (57343 : Int32) < p0
                · have pre23 : ∀ t, Steps p.tables e below (s₁.setTop (mkF m 49 #[.val (.int p0), .unset] [(.int (65534 : Int32)), (.int p0)])) t → Steps p.tables e below (s₁.setTop (entryFrame m #[(.int p0)] 2)) t := fun t kt => pre22 t (by
                      show Steps p.tables e below (s₁.setTop (mkF m 43 #[.val (.int p0), .unset] [(.int (57343 : Int32)), (.int p0)])) _
                      refine XS.icmpNo X0.here hx rfl (hb hby d3_43) rfl (tlt (show (57343 : Int32) < p0 from hc43)).2.2.2 ?_
                      show Steps p.tables e below (s₁.setTop (mkF m 46 #[.val (.int p0), .unset] [])) _
                      refine XS.iloadN X0.here hx rfl (hb hby d3_46) rfl ?_
                      show Steps p.tables e below (s₁.setTop (mkF m 47 #[.val (.int p0), .unset] [(.int p0)])) _
                      refine X0.ldcI hx hown (mvT hZ (hw _ (List.mem_of_getElem? (i := 11) rfl))) (g := (mkF m 47 #[.val (.int p0), .unset] [(.int p0)])) rfl (hb hby d3_47) ?_
                      exact kt)
                  by_cases hc49 : p0 = (65534 : Int32)
                  · obtain ⟨fs, hr, hrun, hended, hW, hsame⟩ := X0.leave (v := some (.int (0 : Int32))) (fun h => by rw [Bd.returns] at h; cases h)
                    refine ⟨_, _, pre23 _ ?_, hrun, hended, _, _, rfl, ?_, ⟨_, rfl⟩, hW, hsame.mono (by decide) (by decide)⟩
                    · show Steps p.tables e below (s₁.setTop (mkF m 49 #[.val (.int p0), .unset] [(.int (65534 : Int32)), (.int p0)])) _
                      refine XS.icmpYes X0.here hx rfl (pc0 := 49) (pc' := 58) rfl (hb hby d3_49) rfl (teq (show p0 = (65534 : Int32) from hc49)).1 (by decide) (by decide) ?_
                      show Steps p.tables e below (s₁.setTop (mkF m 58 #[.val (.int p0), .unset] [])) _
                      refine XS.iconst X0.here hx rfl (hb hby d3_58) ?_
                      show Steps p.tables e below (s₁.setTop (mkF m 59 #[.val (.int p0), .unset] [(.int (1 : Int32))])) _
                      refine XS.goto X0.here hx rfl (pc0 := 59) (pc' := 63) rfl (hb hby d3_59) (by decide) (by decide) ?_
                      show Steps p.tables e below (s₁.setTop (mkF m 63 #[.val (.int p0), .unset] [(.int (1 : Int32))])) _
                      refine XS.istoreN X0.here hx rfl (hb hby d3_63) rfl (l' := #[.val (.int p0), .val (.int (1 : Int32))]) rfl ?_
                      show Steps p.tables e below (s₁.setTop (mkF m 64 #[.val (.int p0), .val (.int (1 : Int32))] [])) _
                      refine XS.iloadN X0.here hx rfl (hb hby d3_64) rfl ?_
                      show Steps p.tables e below (s₁.setTop (mkF m 65 #[.val (.int p0), .val (.int (1 : Int32))] [(.int (1 : Int32))])) _
                      refine XS.ifYes X0.here hx rfl (pc0 := 65) (pc' := 72) rfl (hb hby d3_65) rfl ((if0 _ _).trans (feq (show ¬ ((1 : Int32) = (0 : Int32)) from (by decide))).2) (by decide) (by decide) ?_
                      show Steps p.tables e below (s₁.setTop (mkF m 72 #[.val (.int p0), .val (.int (1 : Int32))] [])) _
                      refine XS.iconst X0.here hx rfl (hb hby d3_72) ?_
                      show Steps p.tables e below (s₁.setTop (mkF m 73 #[.val (.int p0), .val (.int (1 : Int32))] [(.int (0 : Int32))])) _
                      exact retN X0 hx (t := .boolean) Bd.returns (by simp) (hb hby d3_73) hr
                    · show Q3 p0 h0 n0 _ s₁.heap _
                      rw [e0]
                      exact ⟨(by rw [exV, if_pos (by simp [eq_false hc1, eq_false hc7, eq_true hc13, eq_false hc19, eq_false hc25, eq_true hc31, eq_false hc37, eq_true hc43, eq_true hc49])]), N0, rfl⟩
                  · have pre24 : ∀ t, Steps p.tables e below (s₁.setTop (mkF m 55 #[.val (.int p0), .unset] [(.int (65535 : Int32)), (.int p0)])) t → Steps p.tables e below (s₁.setTop (entryFrame m #[(.int p0)] 2)) t := fun t kt => pre23 t (by
                        show Steps p.tables e below (s₁.setTop (mkF m 49 #[.val (.int p0), .unset] [(.int (65534 : Int32)), (.int p0)])) _
                        refine XS.icmpNo X0.here hx rfl (hb hby d3_49) rfl (feq (show ¬ (p0 = (65534 : Int32)) from hc49)).1 ?_
                        show Steps p.tables e below (s₁.setTop (mkF m 52 #[.val (.int p0), .unset] [])) _
                        refine XS.iloadN X0.here hx rfl (hb hby d3_52) rfl ?_
                        show Steps p.tables e below (s₁.setTop (mkF m 53 #[.val (.int p0), .unset] [(.int p0)])) _
                        refine X0.ldcI hx hown (mvT hZ (hw _ (List.mem_of_getElem? (i := 12) rfl))) (g := (mkF m 53 #[.val (.int p0), .unset] [(.int p0)])) rfl (hb hby d3_53) ?_
                        exact kt)
                    by_cases hc55 : p0 = (65535 : Int32)
                    · obtain ⟨fs, hr, hrun, hended, hW, hsame⟩ := X0.leave (v := some (.int (0 : Int32))) (fun h => by rw [Bd.returns] at h; cases h)
                      refine ⟨_, _, pre24 _ ?_, hrun, hended, _, _, rfl, ?_, ⟨_, rfl⟩, hW, hsame.mono (by decide) (by decide)⟩
                      · show Steps p.tables e below (s₁.setTop (mkF m 55 #[.val (.int p0), .unset] [(.int (65535 : Int32)), (.int p0)])) _
                        refine XS.icmpNo X0.here hx rfl (hb hby d3_55) rfl (teq (show p0 = (65535 : Int32) from hc55)).2 ?_
                        show Steps p.tables e below (s₁.setTop (mkF m 58 #[.val (.int p0), .unset] [])) _
                        refine XS.iconst X0.here hx rfl (hb hby d3_58) ?_
                        show Steps p.tables e below (s₁.setTop (mkF m 59 #[.val (.int p0), .unset] [(.int (1 : Int32))])) _
                        refine XS.goto X0.here hx rfl (pc0 := 59) (pc' := 63) rfl (hb hby d3_59) (by decide) (by decide) ?_
                        show Steps p.tables e below (s₁.setTop (mkF m 63 #[.val (.int p0), .unset] [(.int (1 : Int32))])) _
                        refine XS.istoreN X0.here hx rfl (hb hby d3_63) rfl (l' := #[.val (.int p0), .val (.int (1 : Int32))]) rfl ?_
                        show Steps p.tables e below (s₁.setTop (mkF m 64 #[.val (.int p0), .val (.int (1 : Int32))] [])) _
                        refine XS.iloadN X0.here hx rfl (hb hby d3_64) rfl ?_
                        show Steps p.tables e below (s₁.setTop (mkF m 65 #[.val (.int p0), .val (.int (1 : Int32))] [(.int (1 : Int32))])) _
                        refine XS.ifYes X0.here hx rfl (pc0 := 65) (pc' := 72) rfl (hb hby d3_65) rfl ((if0 _ _).trans (feq (show ¬ ((1 : Int32) = (0 : Int32)) from (by decide))).2) (by decide) (by decide) ?_
                        show Steps p.tables e below (s₁.setTop (mkF m 72 #[.val (.int p0), .val (.int (1 : Int32))] [])) _
                        refine XS.iconst X0.here hx rfl (hb hby d3_72) ?_
                        show Steps p.tables e below (s₁.setTop (mkF m 73 #[.val (.int p0), .val (.int (1 : Int32))] [(.int (0 : Int32))])) _
                        exact retN X0 hx (t := .boolean) Bd.returns (by simp) (hb hby d3_73) hr
                      · show Q3 p0 h0 n0 _ s₁.heap _
                        rw [e0]
                        exact ⟨(by rw [exV, if_pos (by simp [eq_false hc1, eq_false hc7, eq_true hc13, eq_false hc19, eq_false hc25, eq_true hc31, eq_false hc37, eq_true hc43, eq_false hc49, eq_true hc55])]), N0, rfl⟩
                    · obtain ⟨fs, hr, hrun, hended, hW, hsame⟩ := X0.leave (v := some (.int (1 : Int32))) (fun h => by rw [Bd.returns] at h; cases h)
                      refine ⟨_, _, pre24 _ ?_, hrun, hended, _, _, rfl, ?_, ⟨_, rfl⟩, hW, hsame.mono (by decide) (by decide)⟩
                      · show Steps p.tables e below (s₁.setTop (mkF m 55 #[.val (.int p0), .unset] [(.int (65535 : Int32)), (.int p0)])) _
                        refine XS.icmpYes X0.here hx rfl (pc0 := 55) (pc' := 62) rfl (hb hby d3_55) rfl (feq (show ¬ (p0 = (65535 : Int32)) from hc55)).2 (by decide) (by decide) ?_
                        show Steps p.tables e below (s₁.setTop (mkF m 62 #[.val (.int p0), .unset] [])) _
                        refine XS.iconst X0.here hx rfl (hb hby d3_62) ?_
                        show Steps p.tables e below (s₁.setTop (mkF m 63 #[.val (.int p0), .unset] [(.int (0 : Int32))])) _
                        refine XS.istoreN X0.here hx rfl (hb hby d3_63) rfl (l' := #[.val (.int p0), .val (.int (0 : Int32))]) rfl ?_
                        show Steps p.tables e below (s₁.setTop (mkF m 64 #[.val (.int p0), .val (.int (0 : Int32))] [])) _
                        refine XS.iloadN X0.here hx rfl (hb hby d3_64) rfl ?_
                        show Steps p.tables e below (s₁.setTop (mkF m 65 #[.val (.int p0), .val (.int (0 : Int32))] [(.int (0 : Int32))])) _
                        refine XS.ifNo X0.here hx rfl (hb hby d3_65) rfl ((if0 _ _).trans (teq (show (0 : Int32) = (0 : Int32) from (by decide))).2) ?_
                        show Steps p.tables e below (s₁.setTop (mkF m 68 #[.val (.int p0), .val (.int (0 : Int32))] [])) _
                        refine XS.iconst X0.here hx rfl (hb hby d3_68) ?_
                        show Steps p.tables e below (s₁.setTop (mkF m 69 #[.val (.int p0), .val (.int (0 : Int32))] [(.int (1 : Int32))])) _
                        refine XS.goto X0.here hx rfl (pc0 := 69) (pc' := 73) rfl (hb hby d3_69) (by decide) (by decide) ?_
                        show Steps p.tables e below (s₁.setTop (mkF m 73 #[.val (.int p0), .val (.int (0 : Int32))] [(.int (1 : Int32))])) _
                        exact retN X0 hx (t := .boolean) Bd.returns (by simp) (hb hby d3_73) hr
                      · show Q3 p0 h0 n0 _ s₁.heap _
                        rw [e0]
                        exact ⟨(by rw [exV, if_neg (by simp [eq_false hc1, eq_false hc7, eq_true hc13, eq_false hc19, eq_false hc25, eq_true hc31, eq_false hc37, eq_true hc43, eq_false hc49, eq_false hc55])]), N0, rfl⟩
                · obtain ⟨fs, hr, hrun, hended, hW, hsame⟩ := X0.leave (v := some (.int (0 : Int32))) (fun h => by rw [Bd.returns] at h; cases h)
                  refine ⟨_, _, pre22 _ ?_, hrun, hended, _, _, rfl, ?_, ⟨_, rfl⟩, hW, hsame.mono (by decide) (by decide)⟩
                  · show Steps p.tables e below (s₁.setTop (mkF m 43 #[.val (.int p0), .unset] [(.int (57343 : Int32)), (.int p0)])) _
                    refine XS.icmpYes X0.here hx rfl (pc0 := 43) (pc' := 58) rfl (hb hby d3_43) rfl (flt (show ¬ ((57343 : Int32) < p0) from hc43)).2.2.2 (by decide) (by decide) ?_
                    show Steps p.tables e below (s₁.setTop (mkF m 58 #[.val (.int p0), .unset] [])) _
                    refine XS.iconst X0.here hx rfl (hb hby d3_58) ?_
                    show Steps p.tables e below (s₁.setTop (mkF m 59 #[.val (.int p0), .unset] [(.int (1 : Int32))])) _
                    refine XS.goto X0.here hx rfl (pc0 := 59) (pc' := 63) rfl (hb hby d3_59) (by decide) (by decide) ?_
                    show Steps p.tables e below (s₁.setTop (mkF m 63 #[.val (.int p0), .unset] [(.int (1 : Int32))])) _
                    refine XS.istoreN X0.here hx rfl (hb hby d3_63) rfl (l' := #[.val (.int p0), .val (.int (1 : Int32))]) rfl ?_
                    show Steps p.tables e below (s₁.setTop (mkF m 64 #[.val (.int p0), .val (.int (1 : Int32))] [])) _
                    refine XS.iloadN X0.here hx rfl (hb hby d3_64) rfl ?_
                    show Steps p.tables e below (s₁.setTop (mkF m 65 #[.val (.int p0), .val (.int (1 : Int32))] [(.int (1 : Int32))])) _
                    refine XS.ifYes X0.here hx rfl (pc0 := 65) (pc' := 72) rfl (hb hby d3_65) rfl ((if0 _ _).trans (feq (show ¬ ((1 : Int32) = (0 : Int32)) from (by decide))).2) (by decide) (by decide) ?_
                    show Steps p.tables e below (s₁.setTop (mkF m 72 #[.val (.int p0), .val (.int (1 : Int32))] [])) _
                    refine XS.iconst X0.here hx rfl (hb hby d3_72) ?_
                    show Steps p.tables e below (s₁.setTop (mkF m 73 #[.val (.int p0), .val (.int (1 : Int32))] [(.int (0 : Int32))])) _
                    exact retN X0 hx (t := .boolean) Bd.returns (by simp) (hb hby d3_73) hr
                  · show Q3 p0 h0 n0 _ s₁.heap _
                    rw [e0]
                    exact ⟨(by rw [exV, if_pos (by simp [eq_false hc1, eq_false hc7, eq_true hc13, eq_false hc19, eq_false hc25, eq_true hc31, eq_false hc37, eq_false hc43])]), N0, rfl⟩
            · obtain ⟨fs, hr, hrun, hended, hW, hsame⟩ := X0.leave (v := some (.int (0 : Int32))) (fun h => by rw [Bd.returns] at h; cases h)
              refine ⟨_, _, pre18 _ ?_, hrun, hended, _, _, rfl, ?_, ⟨_, rfl⟩, hW, hsame.mono (by decide) (by decide)⟩
              · show Steps p.tables e below (s₁.setTop (mkF m 31 #[.val (.int p0), .unset] [(.int (13 : Int32)), (.int p0)])) _
                refine XS.icmpYes X0.here hx rfl (pc0 := 31) (pc' := 58) rfl (hb hby d3_31) rfl (feq (show ¬ (p0 = (13 : Int32)) from hc31)).2 (by decide) (by decide) ?_
                show Steps p.tables e below (s₁.setTop (mkF m 58 #[.val (.int p0), .unset] [])) _
                refine XS.iconst X0.here hx rfl (hb hby d3_58) ?_
                show Steps p.tables e below (s₁.setTop (mkF m 59 #[.val (.int p0), .unset] [(.int (1 : Int32))])) _
                refine XS.goto X0.here hx rfl (pc0 := 59) (pc' := 63) rfl (hb hby d3_59) (by decide) (by decide) ?_
                show Steps p.tables e below (s₁.setTop (mkF m 63 #[.val (.int p0), .unset] [(.int (1 : Int32))])) _
                refine XS.istoreN X0.here hx rfl (hb hby d3_63) rfl (l' := #[.val (.int p0), .val (.int (1 : Int32))]) rfl ?_
                show Steps p.tables e below (s₁.setTop (mkF m 64 #[.val (.int p0), .val (.int (1 : Int32))] [])) _
                refine XS.iloadN X0.here hx rfl (hb hby d3_64) rfl ?_
                show Steps p.tables e below (s₁.setTop (mkF m 65 #[.val (.int p0), .val (.int (1 : Int32))] [(.int (1 : Int32))])) _
                refine XS.ifYes X0.here hx rfl (pc0 := 65) (pc' := 72) rfl (hb hby d3_65) rfl ((if0 _ _).trans (feq (show ¬ ((1 : Int32) = (0 : Int32)) from (by decide))).2) (by decide) (by decide) ?_
                show Steps p.tables e below (s₁.setTop (mkF m 72 #[.val (.int p0), .val (.int (1 : Int32))] [])) _
                refine XS.iconst X0.here hx rfl (hb hby d3_72) ?_
                show Steps p.tables e below (s₁.setTop (mkF m 73 #[.val (.int p0), .val (.int (1 : Int32))] [(.int (0 : Int32))])) _
                exact retN X0 hx (t := .boolean) Bd.returns (by simp) (hb hby d3_73) hr
              · show Q3 p0 h0 n0 _ s₁.heap _
                rw [e0]
                exact ⟨(by rw [exV, if_pos (by simp [eq_false hc1, eq_false hc7, eq_true hc13, eq_false hc19, eq_false hc25, eq_false hc31])]), N0, rfl⟩
      · have pre25 : ∀ t, Steps p.tables e below (s₁.setTop (mkF m 37 #[.val (.int p0), .unset] [(.int (55296 : Int32)), (.int p0)])) t → Steps p.tables e below (s₁.setTop (entryFrame m #[(.int p0)] 2)) t := fun t kt => pre3 t (by
            show Steps p.tables e below (s₁.setTop (mkF m 13 #[.val (.int p0), .unset] [(.int (32 : Int32)), (.int p0)])) _
            refine XS.icmpYes X0.here hx rfl (pc0 := 13) (pc' := 34) rfl (hb hby d3_13) rfl (flt (show ¬ (p0 < (32 : Int32)) from hc13)).2.1 (by decide) (by decide) ?_
            show Steps p.tables e below (s₁.setTop (mkF m 34 #[.val (.int p0), .unset] [])) _
            refine XS.iloadN X0.here hx rfl (hb hby d3_34) rfl ?_
            show Steps p.tables e below (s₁.setTop (mkF m 35 #[.val (.int p0), .unset] [(.int p0)])) _
            refine X0.ldcI hx hown (mvT hZ (hw _ (List.mem_of_getElem? (i := 7) rfl))) (g := (mkF m 35 #[.val (.int p0), .unset] [(.int p0)])) rfl (hb hby d3_35) ?_
            exact kt)
        by_cases hc37 : p0 < (55296 : Int32)
        · have pre26 : ∀ t, Steps p.tables e below (s₁.setTop (mkF m 49 #[.val (.int p0), .unset] [(.int (65534 : Int32)), (.int p0)])) t → Steps p.tables e below (s₁.setTop (entryFrame m #[(.int p0)] 2)) t := fun t kt => pre25 t (by
              show Steps p.tables e below (s₁.setTop (mkF m 37 #[.val (.int p0), .unset] [(.int (55296 : Int32)), (.int p0)])) _
              refine XS.icmpYes X0.here hx rfl (pc0 := 37) (pc' := 46) rfl (hb hby d3_37) rfl (tlt (show p0 < (55296 : Int32) from hc37)).1 (by decide) (by decide) ?_
              show Steps p.tables e below (s₁.setTop (mkF m 46 #[.val (.int p0), .unset] [])) _
              refine XS.iloadN X0.here hx rfl (hb hby d3_46) rfl ?_
              show Steps p.tables e below (s₁.setTop (mkF m 47 #[.val (.int p0), .unset] [(.int p0)])) _
              refine X0.ldcI hx hown (mvT hZ (hw _ (List.mem_of_getElem? (i := 11) rfl))) (g := (mkF m 47 #[.val (.int p0), .unset] [(.int p0)])) rfl (hb hby d3_47) ?_
              exact kt)
          by_cases hc49 : p0 = (65534 : Int32)
          · obtain ⟨fs, hr, hrun, hended, hW, hsame⟩ := X0.leave (v := some (.int (0 : Int32))) (fun h => by rw [Bd.returns] at h; cases h)
            refine ⟨_, _, pre26 _ ?_, hrun, hended, _, _, rfl, ?_, ⟨_, rfl⟩, hW, hsame.mono (by decide) (by decide)⟩
            · show Steps p.tables e below (s₁.setTop (mkF m 49 #[.val (.int p0), .unset] [(.int (65534 : Int32)), (.int p0)])) _
              refine XS.icmpYes X0.here hx rfl (pc0 := 49) (pc' := 58) rfl (hb hby d3_49) rfl (teq (show p0 = (65534 : Int32) from hc49)).1 (by decide) (by decide) ?_
              show Steps p.tables e below (s₁.setTop (mkF m 58 #[.val (.int p0), .unset] [])) _
              refine XS.iconst X0.here hx rfl (hb hby d3_58) ?_
              show Steps p.tables e below (s₁.setTop (mkF m 59 #[.val (.int p0), .unset] [(.int (1 : Int32))])) _
              refine XS.goto X0.here hx rfl (pc0 := 59) (pc' := 63) rfl (hb hby d3_59) (by decide) (by decide) ?_
              show Steps p.tables e below (s₁.setTop (mkF m 63 #[.val (.int p0), .unset] [(.int (1 : Int32))])) _
              refine XS.istoreN X0.here hx rfl (hb hby d3_63) rfl (l' := #[.val (.int p0), .val (.int (1 : Int32))]) rfl ?_
              show Steps p.tables e below (s₁.setTop (mkF m 64 #[.val (.int p0), .val (.int (1 : Int32))] [])) _
              refine XS.iloadN X0.here hx rfl (hb hby d3_64) rfl ?_
              show Steps p.tables e below (s₁.setTop (mkF m 65 #[.val (.int p0), .val (.int (1 : Int32))] [(.int (1 : Int32))])) _
              refine XS.ifYes X0.here hx rfl (pc0 := 65) (pc' := 72) rfl (hb hby d3_65) rfl ((if0 _ _).trans (feq (show ¬ ((1 : Int32) = (0 : Int32)) from (by decide))).2) (by decide) (by decide) ?_
              show Steps p.tables e below (s₁.setTop (mkF m 72 #[.val (.int p0), .val (.int (1 : Int32))] [])) _
              refine XS.iconst X0.here hx rfl (hb hby d3_72) ?_
              show Steps p.tables e below (s₁.setTop (mkF m 73 #[.val (.int p0), .val (.int (1 : Int32))] [(.int (0 : Int32))])) _
              exact retN X0 hx (t := .boolean) Bd.returns (by simp) (hb hby d3_73) hr
            · show Q3 p0 h0 n0 _ s₁.heap _
              rw [e0]
              exact ⟨(by rw [exV, if_pos (by simp [eq_false hc1, eq_false hc7, eq_false hc13, eq_true hc37, eq_true hc49])]), N0, rfl⟩
          · have pre27 : ∀ t, Steps p.tables e below (s₁.setTop (mkF m 55 #[.val (.int p0), .unset] [(.int (65535 : Int32)), (.int p0)])) t → Steps p.tables e below (s₁.setTop (entryFrame m #[(.int p0)] 2)) t := fun t kt => pre26 t (by
                show Steps p.tables e below (s₁.setTop (mkF m 49 #[.val (.int p0), .unset] [(.int (65534 : Int32)), (.int p0)])) _
                refine XS.icmpNo X0.here hx rfl (hb hby d3_49) rfl (feq (show ¬ (p0 = (65534 : Int32)) from hc49)).1 ?_
                show Steps p.tables e below (s₁.setTop (mkF m 52 #[.val (.int p0), .unset] [])) _
                refine XS.iloadN X0.here hx rfl (hb hby d3_52) rfl ?_
                show Steps p.tables e below (s₁.setTop (mkF m 53 #[.val (.int p0), .unset] [(.int p0)])) _
                refine X0.ldcI hx hown (mvT hZ (hw _ (List.mem_of_getElem? (i := 12) rfl))) (g := (mkF m 53 #[.val (.int p0), .unset] [(.int p0)])) rfl (hb hby d3_53) ?_
                exact kt)
            by_cases hc55 : p0 = (65535 : Int32)
            · obtain ⟨fs, hr, hrun, hended, hW, hsame⟩ := X0.leave (v := some (.int (0 : Int32))) (fun h => by rw [Bd.returns] at h; cases h)
              refine ⟨_, _, pre27 _ ?_, hrun, hended, _, _, rfl, ?_, ⟨_, rfl⟩, hW, hsame.mono (by decide) (by decide)⟩
              · show Steps p.tables e below (s₁.setTop (mkF m 55 #[.val (.int p0), .unset] [(.int (65535 : Int32)), (.int p0)])) _
                refine XS.icmpNo X0.here hx rfl (hb hby d3_55) rfl (teq (show p0 = (65535 : Int32) from hc55)).2 ?_
                show Steps p.tables e below (s₁.setTop (mkF m 58 #[.val (.int p0), .unset] [])) _
                refine XS.iconst X0.here hx rfl (hb hby d3_58) ?_
                show Steps p.tables e below (s₁.setTop (mkF m 59 #[.val (.int p0), .unset] [(.int (1 : Int32))])) _
                refine XS.goto X0.here hx rfl (pc0 := 59) (pc' := 63) rfl (hb hby d3_59) (by decide) (by decide) ?_
                show Steps p.tables e below (s₁.setTop (mkF m 63 #[.val (.int p0), .unset] [(.int (1 : Int32))])) _
                refine XS.istoreN X0.here hx rfl (hb hby d3_63) rfl (l' := #[.val (.int p0), .val (.int (1 : Int32))]) rfl ?_
                show Steps p.tables e below (s₁.setTop (mkF m 64 #[.val (.int p0), .val (.int (1 : Int32))] [])) _
                refine XS.iloadN X0.here hx rfl (hb hby d3_64) rfl ?_
                show Steps p.tables e below (s₁.setTop (mkF m 65 #[.val (.int p0), .val (.int (1 : Int32))] [(.int (1 : Int32))])) _
                refine XS.ifYes X0.here hx rfl (pc0 := 65) (pc' := 72) rfl (hb hby d3_65) rfl ((if0 _ _).trans (feq (show ¬ ((1 : Int32) = (0 : Int32)) from (by decide))).2) (by decide) (by decide) ?_
                show Steps p.tables e below (s₁.setTop (mkF m 72 #[.val (.int p0), .val (.int (1 : Int32))] [])) _
                refine XS.iconst X0.here hx rfl (hb hby d3_72) ?_
                show Steps p.tables e below (s₁.setTop (mkF m 73 #[.val (.int p0), .val (.int (1 : Int32))] [(.int (0 : Int32))])) _
                exact retN X0 hx (t := .boolean) Bd.returns (by simp) (hb hby d3_73) hr
              · show Q3 p0 h0 n0 _ s₁.heap _
                rw [e0]
                exact ⟨(by rw [exV, if_pos (by simp [eq_false hc1, eq_false hc7, eq_false hc13, eq_true hc37, eq_false hc49, eq_true hc55])]), N0, rfl⟩
            · obtain ⟨fs, hr, hrun, hended, hW, hsame⟩ := X0.leave (v := some (.int (1 : Int32))) (fun h => by rw [Bd.returns] at h; cases h)
              refine ⟨_, _, pre27 _ ?_, hrun, hended, _, _, rfl, ?_, ⟨_, rfl⟩, hW, hsame.mono (by decide) (by decide)⟩
              · show Steps p.tables e below (s₁.setTop (mkF m 55 #[.val (.int p0), .unset] [(.int (65535 : Int32)), (.int p0)])) _
                refine XS.icmpYes X0.here hx rfl (pc0 := 55) (pc' := 62) rfl (hb hby d3_55) rfl (feq (show ¬ (p0 = (65535 : Int32)) from hc55)).2 (by decide) (by decide) ?_
                show Steps p.tables e below (s₁.setTop (mkF m 62 #[.val (.int p0), .unset] [])) _
                refine XS.iconst X0.here hx rfl (hb hby d3_62) ?_
                show Steps p.tables e below (s₁.setTop (mkF m 63 #[.val (.int p0), .unset] [(.int (0 : Int32))])) _
                refine XS.istoreN X0.here hx rfl (hb hby d3_63) rfl (l' := #[.val (.int p0), .val (.int (0 : Int32))]) rfl ?_
                show Steps p.tables e below (s₁.setTop (mkF m 64 #[.val (.int p0), .val (.int (0 : Int32))] [])) _
                refine XS.iloadN X0.here hx rfl (hb hby d3_64) rfl ?_
                show Steps p.tables e below (s₁.setTop (mkF m 65 #[.val (.int p0), .val (.int (0 : Int32))] [(.int (0 : Int32))])) _
                refine XS.ifNo X0.here hx rfl (hb hby d3_65) rfl ((if0 _ _).trans (teq (show (0 : Int32) = (0 : Int32) from (by decide))).2) ?_
                show Steps p.tables e below (s₁.setTop (mkF m 68 #[.val (.int p0), .val (.int (0 : Int32))] [])) _
                refine XS.iconst X0.here hx rfl (hb hby d3_68) ?_
                show Steps p.tables e below (s₁.setTop (mkF m 69 #[.val (.int p0), .val (.int (0 : Int32))] [(.int (1 : Int32))])) _
                refine XS.goto X0.here hx rfl (pc0 := 69) (pc' := 73) rfl (hb hby d3_69) (by decide) (by decide) ?_
                show Steps p.tables e below (s₁.setTop (mkF m 73 #[.val (.int p0), .val (.int (0 : Int32))] [(.int (1 : Int32))])) _
                exact retN X0 hx (t := .boolean) Bd.returns (by simp) (hb hby d3_73) hr
              · show Q3 p0 h0 n0 _ s₁.heap _
                rw [e0]
                exact ⟨(by rw [exV, if_neg (by simp [eq_false hc1, eq_false hc7, eq_false hc13, eq_true hc37, eq_false hc49, eq_false hc55])]), N0, rfl⟩
        · have pre28 : ∀ t, Steps p.tables e below (s₁.setTop (mkF m 43 #[.val (.int p0), .unset] [(.int (57343 : Int32)), (.int p0)])) t → Steps p.tables e below (s₁.setTop (entryFrame m #[(.int p0)] 2)) t := fun t kt => pre25 t (by
              show Steps p.tables e below (s₁.setTop (mkF m 37 #[.val (.int p0), .unset] [(.int (55296 : Int32)), (.int p0)])) _
              refine XS.icmpNo X0.here hx rfl (hb hby d3_37) rfl (flt (show ¬ (p0 < (55296 : Int32)) from hc37)).1 ?_
              show Steps p.tables e below (s₁.setTop (mkF m 40 #[.val (.int p0), .unset] [])) _
              refine XS.iloadN X0.here hx rfl (hb hby d3_40) rfl ?_
              show Steps p.tables e below (s₁.setTop (mkF m 41 #[.val (.int p0), .unset] [(.int p0)])) _
              refine X0.ldcI hx hown (mvT hZ (hw _ (List.mem_of_getElem? (i := 8) rfl))) (g := (mkF m 41 #[.val (.int p0), .unset] [(.int p0)])) rfl (hb hby d3_41) ?_
              exact kt)
          by_cases hc43 : (57343 : Int32) < p0
          · have pre29 : ∀ t, Steps p.tables e below (s₁.setTop (mkF m 49 #[.val (.int p0), .unset] [(.int (65534 : Int32)), (.int p0)])) t → Steps p.tables e below (s₁.setTop (entryFrame m #[(.int p0)] 2)) t := fun t kt => pre28 t (by
                show Steps p.tables e below (s₁.setTop (mkF m 43 #[.val (.int p0), .unset] [(.int (57343 : Int32)), (.int p0)])) _
                refine XS.icmpNo X0.here hx rfl (hb hby d3_43) rfl (tlt (show (57343 : Int32) < p0 from hc43)).2.2.2 ?_
                show Steps p.tables e below (s₁.setTop (mkF m 46 #[.val (.int p0), .unset] [])) _
                refine XS.iloadN X0.here hx rfl (hb hby d3_46) rfl ?_
                show Steps p.tables e below (s₁.setTop (mkF m 47 #[.val (.int p0), .unset] [(.int p0)])) _
                refine X0.ldcI hx hown (mvT hZ (hw _ (List.mem_of_getElem? (i := 11) rfl))) (g := (mkF m 47 #[.val (.int p0), .unset] [(.int p0)])) rfl (hb hby d3_47) ?_
                exact kt)
            by_cases hc49 : p0 = (65534 : Int32)
            · obtain ⟨fs, hr, hrun, hended, hW, hsame⟩ := X0.leave (v := some (.int (0 : Int32))) (fun h => by rw [Bd.returns] at h; cases h)
              refine ⟨_, _, pre29 _ ?_, hrun, hended, _, _, rfl, ?_, ⟨_, rfl⟩, hW, hsame.mono (by decide) (by decide)⟩
              · show Steps p.tables e below (s₁.setTop (mkF m 49 #[.val (.int p0), .unset] [(.int (65534 : Int32)), (.int p0)])) _
                refine XS.icmpYes X0.here hx rfl (pc0 := 49) (pc' := 58) rfl (hb hby d3_49) rfl (teq (show p0 = (65534 : Int32) from hc49)).1 (by decide) (by decide) ?_
                show Steps p.tables e below (s₁.setTop (mkF m 58 #[.val (.int p0), .unset] [])) _
                refine XS.iconst X0.here hx rfl (hb hby d3_58) ?_
                show Steps p.tables e below (s₁.setTop (mkF m 59 #[.val (.int p0), .unset] [(.int (1 : Int32))])) _
                refine XS.goto X0.here hx rfl (pc0 := 59) (pc' := 63) rfl (hb hby d3_59) (by decide) (by decide) ?_
                show Steps p.tables e below (s₁.setTop (mkF m 63 #[.val (.int p0), .unset] [(.int (1 : Int32))])) _
                refine XS.istoreN X0.here hx rfl (hb hby d3_63) rfl (l' := #[.val (.int p0), .val (.int (1 : Int32))]) rfl ?_
                show Steps p.tables e below (s₁.setTop (mkF m 64 #[.val (.int p0), .val (.int (1 : Int32))] [])) _
                refine XS.iloadN X0.here hx rfl (hb hby d3_64) rfl ?_
                show Steps p.tables e below (s₁.setTop (mkF m 65 #[.val (.int p0), .val (.int (1 : Int32))] [(.int (1 : Int32))])) _
                refine XS.ifYes X0.here hx rfl (pc0 := 65) (pc' := 72) rfl (hb hby d3_65) rfl ((if0 _ _).trans (feq (show ¬ ((1 : Int32) = (0 : Int32)) from (by decide))).2) (by decide) (by decide) ?_
                show Steps p.tables e below (s₁.setTop (mkF m 72 #[.val (.int p0), .val (.int (1 : Int32))] [])) _
                refine XS.iconst X0.here hx rfl (hb hby d3_72) ?_
                show Steps p.tables e below (s₁.setTop (mkF m 73 #[.val (.int p0), .val (.int (1 : Int32))] [(.int (0 : Int32))])) _
                exact retN X0 hx (t := .boolean) Bd.returns (by simp) (hb hby d3_73) hr
              · show Q3 p0 h0 n0 _ s₁.heap _
                rw [e0]
                exact ⟨(by rw [exV, if_pos (by simp [eq_false hc1, eq_false hc7, eq_false hc13, eq_false hc37, eq_true hc43, eq_true hc49])]), N0, rfl⟩
            · have pre30 : ∀ t, Steps p.tables e below (s₁.setTop (mkF m 55 #[.val (.int p0), .unset] [(.int (65535 : Int32)), (.int p0)])) t → Steps p.tables e below (s₁.setTop (entryFrame m #[(.int p0)] 2)) t := fun t kt => pre29 t (by
                  show Steps p.tables e below (s₁.setTop (mkF m 49 #[.val (.int p0), .unset] [(.int (65534 : Int32)), (.int p0)])) _
                  refine XS.icmpNo X0.here hx rfl (hb hby d3_49) rfl (feq (show ¬ (p0 = (65534 : Int32)) from hc49)).1 ?_
                  show Steps p.tables e below (s₁.setTop (mkF m 52 #[.val (.int p0), .unset] [])) _
                  refine XS.iloadN X0.here hx rfl (hb hby d3_52) rfl ?_
                  show Steps p.tables e below (s₁.setTop (mkF m 53 #[.val (.int p0), .unset] [(.int p0)])) _
                  refine X0.ldcI hx hown (mvT hZ (hw _ (List.mem_of_getElem? (i := 12) rfl))) (g := (mkF m 53 #[.val (.int p0), .unset] [(.int p0)])) rfl (hb hby d3_53) ?_
                  exact kt)
              by_cases hc55 : p0 = (65535 : Int32)
              · obtain ⟨fs, hr, hrun, hended, hW, hsame⟩ := X0.leave (v := some (.int (0 : Int32))) (fun h => by rw [Bd.returns] at h; cases h)
                refine ⟨_, _, pre30 _ ?_, hrun, hended, _, _, rfl, ?_, ⟨_, rfl⟩, hW, hsame.mono (by decide) (by decide)⟩
                · show Steps p.tables e below (s₁.setTop (mkF m 55 #[.val (.int p0), .unset] [(.int (65535 : Int32)), (.int p0)])) _
                  refine XS.icmpNo X0.here hx rfl (hb hby d3_55) rfl (teq (show p0 = (65535 : Int32) from hc55)).2 ?_
                  show Steps p.tables e below (s₁.setTop (mkF m 58 #[.val (.int p0), .unset] [])) _
                  refine XS.iconst X0.here hx rfl (hb hby d3_58) ?_
                  show Steps p.tables e below (s₁.setTop (mkF m 59 #[.val (.int p0), .unset] [(.int (1 : Int32))])) _
                  refine XS.goto X0.here hx rfl (pc0 := 59) (pc' := 63) rfl (hb hby d3_59) (by decide) (by decide) ?_
                  show Steps p.tables e below (s₁.setTop (mkF m 63 #[.val (.int p0), .unset] [(.int (1 : Int32))])) _
                  refine XS.istoreN X0.here hx rfl (hb hby d3_63) rfl (l' := #[.val (.int p0), .val (.int (1 : Int32))]) rfl ?_
                  show Steps p.tables e below (s₁.setTop (mkF m 64 #[.val (.int p0), .val (.int (1 : Int32))] [])) _
                  refine XS.iloadN X0.here hx rfl (hb hby d3_64) rfl ?_
                  show Steps p.tables e below (s₁.setTop (mkF m 65 #[.val (.int p0), .val (.int (1 : Int32))] [(.int (1 : Int32))])) _
                  refine XS.ifYes X0.here hx rfl (pc0 := 65) (pc' := 72) rfl (hb hby d3_65) rfl ((if0 _ _).trans (feq (show ¬ ((1 : Int32) = (0 : Int32)) from (by decide))).2) (by decide) (by decide) ?_
                  show Steps p.tables e below (s₁.setTop (mkF m 72 #[.val (.int p0), .val (.int (1 : Int32))] [])) _
                  refine XS.iconst X0.here hx rfl (hb hby d3_72) ?_
                  show Steps p.tables e below (s₁.setTop (mkF m 73 #[.val (.int p0), .val (.int (1 : Int32))] [(.int (0 : Int32))])) _
                  exact retN X0 hx (t := .boolean) Bd.returns (by simp) (hb hby d3_73) hr
                · show Q3 p0 h0 n0 _ s₁.heap _
                  rw [e0]
                  exact ⟨(by rw [exV, if_pos (by simp [eq_false hc1, eq_false hc7, eq_false hc13, eq_false hc37, eq_true hc43, eq_false hc49, eq_true hc55])]), N0, rfl⟩
              · obtain ⟨fs, hr, hrun, hended, hW, hsame⟩ := X0.leave (v := some (.int (1 : Int32))) (fun h => by rw [Bd.returns] at h; cases h)
                refine ⟨_, _, pre30 _ ?_, hrun, hended, _, _, rfl, ?_, ⟨_, rfl⟩, hW, hsame.mono (by decide) (by decide)⟩
                · show Steps p.tables e below (s₁.setTop (mkF m 55 #[.val (.int p0), .unset] [(.int (65535 : Int32)), (.int p0)])) _
                  refine XS.icmpYes X0.here hx rfl (pc0 := 55) (pc' := 62) rfl (hb hby d3_55) rfl (feq (show ¬ (p0 = (65535 : Int32)) from hc55)).2 (by decide) (by decide) ?_
                  show Steps p.tables e below (s₁.setTop (mkF m 62 #[.val (.int p0), .unset] [])) _
                  refine XS.iconst X0.here hx rfl (hb hby d3_62) ?_
                  show Steps p.tables e below (s₁.setTop (mkF m 63 #[.val (.int p0), .unset] [(.int (0 : Int32))])) _
                  refine XS.istoreN X0.here hx rfl (hb hby d3_63) rfl (l' := #[.val (.int p0), .val (.int (0 : Int32))]) rfl ?_
                  show Steps p.tables e below (s₁.setTop (mkF m 64 #[.val (.int p0), .val (.int (0 : Int32))] [])) _
                  refine XS.iloadN X0.here hx rfl (hb hby d3_64) rfl ?_
                  show Steps p.tables e below (s₁.setTop (mkF m 65 #[.val (.int p0), .val (.int (0 : Int32))] [(.int (0 : Int32))])) _
                  refine XS.ifNo X0.here hx rfl (hb hby d3_65) rfl ((if0 _ _).trans (teq (show (0 : Int32) = (0 : Int32) from (by decide))).2) ?_
                  show Steps p.tables e below (s₁.setTop (mkF m 68 #[.val (.int p0), .val (.int (0 : Int32))] [])) _
                  refine XS.iconst X0.here hx rfl (hb hby d3_68) ?_
                  show Steps p.tables e below (s₁.setTop (mkF m 69 #[.val (.int p0), .val (.int (0 : Int32))] [(.int (1 : Int32))])) _
                  refine XS.goto X0.here hx rfl (pc0 := 69) (pc' := 73) rfl (hb hby d3_69) (by decide) (by decide) ?_
                  show Steps p.tables e below (s₁.setTop (mkF m 73 #[.val (.int p0), .val (.int (0 : Int32))] [(.int (1 : Int32))])) _
                  exact retN X0 hx (t := .boolean) Bd.returns (by simp) (hb hby d3_73) hr
                · show Q3 p0 h0 n0 _ s₁.heap _
                  rw [e0]
                  exact ⟨(by rw [exV, if_neg (by simp [eq_false hc1, eq_false hc7, eq_false hc13, eq_false hc37, eq_true hc43, eq_false hc49, eq_false hc55])]), N0, rfl⟩
          · obtain ⟨fs, hr, hrun, hended, hW, hsame⟩ := X0.leave (v := some (.int (0 : Int32))) (fun h => by rw [Bd.returns] at h; cases h)
            refine ⟨_, _, pre28 _ ?_, hrun, hended, _, _, rfl, ?_, ⟨_, rfl⟩, hW, hsame.mono (by decide) (by decide)⟩
            · show Steps p.tables e below (s₁.setTop (mkF m 43 #[.val (.int p0), .unset] [(.int (57343 : Int32)), (.int p0)])) _
              refine XS.icmpYes X0.here hx rfl (pc0 := 43) (pc' := 58) rfl (hb hby d3_43) rfl (flt (show ¬ ((57343 : Int32) < p0) from hc43)).2.2.2 (by decide) (by decide) ?_
              show Steps p.tables e below (s₁.setTop (mkF m 58 #[.val (.int p0), .unset] [])) _
              refine XS.iconst X0.here hx rfl (hb hby d3_58) ?_
              show Steps p.tables e below (s₁.setTop (mkF m 59 #[.val (.int p0), .unset] [(.int (1 : Int32))])) _
              refine XS.goto X0.here hx rfl (pc0 := 59) (pc' := 63) rfl (hb hby d3_59) (by decide) (by decide) ?_
              show Steps p.tables e below (s₁.setTop (mkF m 63 #[.val (.int p0), .unset] [(.int (1 : Int32))])) _
              refine XS.istoreN X0.here hx rfl (hb hby d3_63) rfl (l' := #[.val (.int p0), .val (.int (1 : Int32))]) rfl ?_
              show Steps p.tables e below (s₁.setTop (mkF m 64 #[.val (.int p0), .val (.int (1 : Int32))] [])) _
              refine XS.iloadN X0.here hx rfl (hb hby d3_64) rfl ?_
              show Steps p.tables e below (s₁.setTop (mkF m 65 #[.val (.int p0), .val (.int (1 : Int32))] [(.int (1 : Int32))])) _
              refine XS.ifYes X0.here hx rfl (pc0 := 65) (pc' := 72) rfl (hb hby d3_65) rfl ((if0 _ _).trans (feq (show ¬ ((1 : Int32) = (0 : Int32)) from (by decide))).2) (by decide) (by decide) ?_
              show Steps p.tables e below (s₁.setTop (mkF m 72 #[.val (.int p0), .val (.int (1 : Int32))] [])) _
              refine XS.iconst X0.here hx rfl (hb hby d3_72) ?_
              show Steps p.tables e below (s₁.setTop (mkF m 73 #[.val (.int p0), .val (.int (1 : Int32))] [(.int (0 : Int32))])) _
              exact retN X0 hx (t := .boolean) Bd.returns (by simp) (hb hby d3_73) hr
            · show Q3 p0 h0 n0 _ s₁.heap _
              rw [e0]
              exact ⟨(by rw [exV, if_pos (by simp [eq_false hc1, eq_false hc7, eq_false hc13, eq_false hc37, eq_false hc43])]), N0, rfl⟩
theorem pd_0 : parseMethodDescriptor "(III)I" = some ⟨[.int, .int, .int], some .int⟩ := by decide +kernel
theorem pd_1 : parseMethodDescriptor "(I)Z" = some ⟨[.int], some .boolean⟩ := by decide +kernel
theorem ef_0 (m : MethodId) (p0 : Int32) (p1 : Int32) (p2 : Int32) : entryFrame m #[(.int p0), (.int p1), (.int p2)] maxLocals = mkF m 0 #[.val (.int p0), .val (.int p1), .val (.int p2), .unset] [] := by first | (simp [entryFrame, mkF, argsToLocals, Value.category, maxLocals]; done) | rfl
def Q0 (h0 : Heap) (n0 : Nat) (v : Option Value) (h : Heap) (L : List Loc) : Prop := v = some (.int 1) ∧ Fr n0 L
set_option maxRecDepth 65536 in
set_option maxHeartbeats 40000000 in
theorem rm0 (l : Launch) (Z : State) (a0 : Array Value) (hw : ∀ d ∈ tables_1, d.before a0 Z = true) (ws : List Jvm.Cond) (p0 p1 p2 : Int32) (h0 : Heap) (n0 : Nat) (Z0 : n0 ≤ h0.size)  :
    MetFree l x (head1 (Jvm.Cond.code x code maxLocals ret :: ws) room_1) (fun a U => a = #[(.int p0), (.int p1), (.int p2)] ∧ Z.Warmed39 U.vm ∧ U.heap = h0) (fun _ _ _ _ _ => True) (fun _ U o U' => ∃ v L, o = .returned v ∧ Q0 h0 n0 v U'.heap L ∧ FrameEnd U o U' L 1 17) := by
  refine MetFree.of_bodySF (plainFor_of_name pn_0) hisR ?_
  intro p e s m args below meth c s₁ Bd hml0 hP hK
  obtain ⟨rfl, hZ, hh⟩ := hP
  have hx := Bd.exec
  have hby := Bd.bytes
  have hml : c.maxLocals = 4 := hml0
  have hown : s.vm.findClass "com/example/inked_rows/inkedrows/xml/XmlNamesIsXmlCharPinLaw" = some m.cls := findClass_of_methodNamed Bd.named
  have hnm := (name_of_methodNamed Bd.named Bd.method).1
  have X0 : Stand p l e room_1 s m #[(.int p0), (.int p1), (.int p2)] below meth c s₁ [] 0 0 := Stand.of_body Bd
  have e0 : s₁.heap = h0 := by rw [← hh, Bd.state]; rfl
  have N0 := Fr.nil n0
  have pre0 : ∀ t, Steps p.tables e below (s₁.setTop (mkF m 0 #[.val (.int p0), .val (.int p1), .val (.int p2), .unset] [])) t → Steps p.tables e below (s₁.setTop (entryFrame m #[(.int p0), (.int p1), (.int p2)] maxLocals)) t := fun t k => castTop (ef_0 m p0 p1 p2) k
  obtain ⟨_, _, ⟨T1, L1, k1, n1⟩, -, X1, ⟨Lc1, hQ1, l1, y1, z1⟩, st1⟩ := Jvm.LawKit.callS X0 hx (y := (⟨"com/example/inked_rows/inkedrows/xml/XmlNamesIsXmlCharPinLaw", "pick", "(III)I"⟩ : MethodName)) hown (mvT hZ (hw _ (List.mem_of_getElem? (i := 0) rfl))) (mvT hZ (hw _ (List.mem_of_getElem? (i := 1) rfl))) (mvT hZ (hw _ (List.mem_of_getElem? (i := 2) rfl))) (mvT hZ (hw _ (List.mem_of_getElem? (i := 3) rfl))) (by decide) (backOf (W := 0) (rm1 l Z a0 hw [] p0 p1 p2 h0 n0 Z0) hZ (hw _ (List.mem_of_getElem? (i := 3) rfl)) (hw _ (List.mem_of_getElem? (i := 2) rfl)) (by decide) (by decide)) (g := (mkF m 3 #[.val (.int p0), .val (.int p1), .val (.int p2), .unset] [(.int p2), (.int p1), (.int p0)])) rfl (by rw [hml]; rfl) (argsL := [(.int p0), (.int p1), (.int p2)]) (rest := []) (lenOf pd_0 rfl) rfl (by show 2 * 0 + _ ≤ _; exact Nat.le_of_eq rfl) (hb hby at_3) (fun _ _ => ⟨rfl, e0, (by decide : 0 + 1 ≤ _), (by decide : 0 + 17 ≤ _)⟩)
  dsimp only [Pt.U, Pt.locs, Pt.cells, Pt.slots] at X1 l1 y1 z1 st1 hQ1
  subst l1 y1 z1
  obtain ⟨rfl, N1q, K1⟩ := hQ1
  have KK1 : Keep h0 T1.heap [] := Keep.trans (Keep.refl h0 []) K1 own_side0
  have Z1 : n0 ≤ T1.heap.size := Nat.le_trans Z0 KK1.1
  have N1 := Fr.app N0 N1q
  have pre2 : ∀ t, Steps p.tables e below (T1.setTop (mkF m 7 #[.val (.int p0), .val (.int p1), .val (.int p2), .val (.int (pickV p0 p1 p2))] [])) t → Steps p.tables e below (s₁.setTop (entryFrame m #[(.int p0), (.int p1), (.int p2)] maxLocals)) t := fun t kt => pre0 t (by
      show Steps p.tables e below (s₁.setTop (mkF m 0 #[.val (.int p0), .val (.int p1), .val (.int p2), .unset] [])) _
      refine XS.iloadN X0.here hx rfl (hb hby at_0) rfl ?_
      show Steps p.tables e below (s₁.setTop (mkF m 1 #[.val (.int p0), .val (.int p1), .val (.int p2), .unset] [(.int p0)])) _
      refine XS.iloadN X0.here hx rfl (hb hby at_1) rfl ?_
      show Steps p.tables e below (s₁.setTop (mkF m 2 #[.val (.int p0), .val (.int p1), .val (.int p2), .unset] [(.int p1), (.int p0)])) _
      refine XS.iloadN X0.here hx rfl (hb hby at_2) rfl ?_
      show Steps p.tables e below (s₁.setTop (mkF m 3 #[.val (.int p0), .val (.int p1), .val (.int p2), .unset] [(.int p2), (.int p1), (.int p0)])) _
      refine st1 _ ?_
      show Steps p.tables e below (T1.setTop (mkF m 6 #[.val (.int p0), .val (.int p1), .val (.int p2), .unset] [(.int (pickV p0 p1 p2))])) _
      refine XS.istoreN X1.here hx rfl (hb hby at_6) rfl (l' := #[.val (.int p0), .val (.int p1), .val (.int p2), .val (.int (pickV p0 p1 p2))]) rfl ?_
      exact kt)
  obtain ⟨cc, hcc⟩ : ∃ z : Int32, z = (pickV p0 p1 p2) := ⟨_, rfl⟩
  rw [← hcc] at pre2
  obtain ⟨_, _, ⟨T3, L3, k3, n3⟩, -, X3, ⟨Lc3, hQ3, l3, y3, z3⟩, st3⟩ := Jvm.LawKit.callS X1 hx (y := (⟨"com/example/inked_rows/inkedrows/xml/XmlNames", "isXmlChar", "(I)Z"⟩ : MethodName)) hown (mvT hZ (hw _ (List.mem_of_getElem? (i := 17) rfl))) (mvT hZ (hw _ (List.mem_of_getElem? (i := 18) rfl))) (mvT hZ (hw _ (List.mem_of_getElem? (i := 19) rfl))) (mvT hZ (hw _ (List.mem_of_getElem? (i := 20) rfl))) (by decide) (backOf (W := 0) (rm2 l Z a0 hw [] cc T1.heap n0 Z1 ) hZ (hw _ (List.mem_of_getElem? (i := 20) rfl)) (hw _ (List.mem_of_getElem? (i := 19) rfl)) (by decide) (by decide)) (g := (mkF m 8 #[.val (.int p0), .val (.int p1), .val (.int p2), .val (.int cc)] [(.int cc)])) rfl (by rw [hml]; rfl) (argsL := [(.int cc)]) (rest := []) (lenOf pd_1 rfl) rfl (by show 2 * 0 + _ ≤ _; exact Nat.le_of_eq rfl) (hb hby at_8) (fun _ _ => ⟨rfl, rfl, (by decide : 1 + 0 ≤ _), (by decide : 17 + 0 ≤ _)⟩)
  dsimp only [Pt.U, Pt.locs, Pt.cells, Pt.slots] at X3 l3 y3 z3 st3 hQ3
  subst l3 y3 z3
  obtain ⟨rfl, N3q, e3⟩ := hQ3
  have N3 := Fr.app N1 N3q
  obtain ⟨_, _, ⟨T4, L4, k4, n4⟩, -, X4, ⟨Lc4, hQ4, l4, y4, z4⟩, st4⟩ := Jvm.LawKit.callS X3 hx (y := (⟨"com/example/inked_rows/inkedrows/xml/XmlNamesIsXmlCharPinLaw", "expected", "(I)Z"⟩ : MethodName)) hown (mvT hZ (hw _ (List.mem_of_getElem? (i := 23) rfl))) (mvT hZ (hw _ (List.mem_of_getElem? (i := 24) rfl))) (mvT hZ (hw _ (List.mem_of_getElem? (i := 2) rfl))) (mvT hZ (hw _ (List.mem_of_getElem? (i := 25) rfl))) (by decide) (backOf (W := 1) (rm3 l Z a0 hw [] cc T1.heap n0 Z1 ) hZ (hw _ (List.mem_of_getElem? (i := 25) rfl)) (hw _ (List.mem_of_getElem? (i := 2) rfl)) (by decide) (by decide)) (g := (mkF m 12 #[.val (.int p0), .val (.int p1), .val (.int p2), .val (.int cc)] [(.int cc), (.int (isV cc))])) rfl (by rw [hml]; rfl) (argsL := [(.int cc)]) (rest := [(.int (isV cc))]) (lenOf pd_1 rfl) rfl (by show 2 * 0 + _ ≤ _; exact Nat.le_of_eq rfl) (hb hby at_12) (fun _ _ => ⟨rfl, e3, (by decide : 1 + 0 ≤ _), (by decide : 17 + 0 ≤ _)⟩)
  dsimp only [Pt.U, Pt.locs, Pt.cells, Pt.slots] at X4 l4 y4 z4 st4 hQ4
  subst l4 y4 z4
  obtain ⟨rfl, N4q, e4⟩ := hQ4
  have N4 := Fr.app N3 N4q
  obtain ⟨fs, hr, hrun, hended, hW, hsame⟩ := X4.leave (v := some (.int (1 : Int32))) (fun h => by rw [Bd.returns] at h; cases h)
  refine ⟨_, _, pre2 _ ?_, hrun, hended, _, _, rfl, ?_, ⟨_, rfl⟩, hW, hsame.mono (by decide) (by decide)⟩
  · show Steps p.tables e below (T1.setTop (mkF m 7 #[.val (.int p0), .val (.int p1), .val (.int p2), .val (.int cc)] [])) _
    refine XS.iloadN X1.here hx rfl (hb hby at_7) rfl ?_
    show Steps p.tables e below (T1.setTop (mkF m 8 #[.val (.int p0), .val (.int p1), .val (.int p2), .val (.int cc)] [(.int cc)])) _
    refine st3 _ ?_
    show Steps p.tables e below (T3.setTop (mkF m 11 #[.val (.int p0), .val (.int p1), .val (.int p2), .val (.int cc)] [(.int (isV cc))])) _
    refine XS.iloadN X3.here hx rfl (hb hby at_11) rfl ?_
    show Steps p.tables e below (T3.setTop (mkF m 12 #[.val (.int p0), .val (.int p1), .val (.int p2), .val (.int cc)] [(.int cc), (.int (isV cc))])) _
    refine st4 _ ?_
    show Steps p.tables e below (T4.setTop (mkF m 15 #[.val (.int p0), .val (.int p1), .val (.int p2), .val (.int cc)] [(.int (exV cc)), (.int (isV cc))])) _
    refine XS.icmpNo X4.here hx rfl (hb hby at_15) rfl (teq (show (isV cc) = (exV cc) from (own_same cc))).2 ?_
    show Steps p.tables e below (T4.setTop (mkF m 18 #[.val (.int p0), .val (.int p1), .val (.int p2), .val (.int cc)] [])) _
    refine XS.iconst X4.here hx rfl (hb hby at_18) ?_
    show Steps p.tables e below (T4.setTop (mkF m 19 #[.val (.int p0), .val (.int p1), .val (.int p2), .val (.int cc)] [(.int (1 : Int32))])) _
    refine XS.goto X4.here hx rfl (pc0 := 19) (pc' := 23) rfl (hb hby at_19) (by decide) (by decide) ?_
    show Steps p.tables e below (T4.setTop (mkF m 23 #[.val (.int p0), .val (.int p1), .val (.int p2), .val (.int cc)] [(.int (1 : Int32))])) _
    exact retN X4 hx (t := .boolean) Bd.returns (by simp) (hb hby at_23) hr
  · show Q0 h0 n0 _ T4.heap _
    rw [e4]
    exact ⟨rfl, N4⟩
set_option maxRecDepth 65536 in
set_option maxHeartbeats 40000000 in
theorem comes_1 {Post : Tables → Env → Array Value → State → Outcome → State → Prop} (hpost : ∀ tb e args s v u, (limb_1_1.after args s (.returned v) u = true ∧ limb_1_2.after args s (.returned v) u = true ∧ True) → FrameEnd s (.returned v) u (Jvm.fieldLocs frame_1_writes args s ++ Jvm.arrayLocs frame_1_arrays args s ++ Jvm.staticLocs frame_1_statics s) 16 128 → Post tb e args s (.returned v) u) :
    ArmFor flags0 classFile x code maxLocals ret World_1 tables_1 room_1 Calls_1 rest_1 Pre_1 Post := by
  intro l hfl _ _ p e ha hc hk s m args below hf hA hF happ hP
  obtain ⟨hcalls, hrest, hpre⟩ := hP
  obtain ⟨-, -, -, hnamed, -, -, -, hat⟩ := (Spec.applies_iff hf).mp happ
  obtain ⟨hg, hn⟩ := and_e (Cond.before_iff.mp (show (Jvm.Cond.and given_1 narrow_1).before args s = true from hpre))
  obtain ⟨hcnt, hg1⟩ := and_e hg
  obtain ⟨ha0, hg2⟩ := and_e hg1
  obtain ⟨ha1, hg3⟩ := and_e hg2
  have ha2 := hg3
  obtain ⟨w0, w1, w2, rfl⟩ : ∃ w0 w1 w2 : Value, args = #[w0, w1, w2] := by
    have hs : args.size = 3 := by simpa [Cond.value, given_1] using hcnt
    obtain ⟨L⟩ := args
    match L, hs with
    | [w0, w1, w2], _ => exact ⟨w0, w1, w2, rfl⟩
  have hw := fun d (hd : d ∈ tables_1) => atoms_spec (ws := Jvm.Cond.code x code maxLocals ret :: tables_1) hat d (List.mem_cons_of_mem _ hd)
  have hfit : Fit s := fun {y c} hc i hi => by
    obtain ⟨ha, rfl⟩ := Array.getElem?_eq_some_iff.mp hc
    have q := List.all_eq_true.mp ((Array.all_eq_true_iff_forall_mem.mp hF) _ (Array.getElem_mem ha)) i (List.mem_range.mpr hi)
    simpa [Array.getElem?_eq_getElem hi] using q
  obtain ⟨i0, ei0⟩ := is_v ha0
  obtain rfl : w0 = (.int i0) := Option.some.inj ei0
  obtain ⟨i1, ei1⟩ := is_v ha1
  obtain rfl : w1 = (.int i1) := Option.some.inj ei1
  obtain ⟨i2, ei2⟩ := is_v ha2
  obtain rfl : w2 = (.int i2) := Option.some.inj ei2
  obtain ⟨n, o, h1, h2, h3, _, L, rfl, ⟨rfl, N⟩, hq⟩ := rm0 l s _ hw tables_1 i0 i1 i2 s.heap s.heap.size (Nat.le_refl _) p e ha hc hk s m _ below hf ((Spec.applies_iff_loose hf).mp happ).1 ⟨rfl, State.Warmed39.refl s, rfl⟩ trivial
  refine ⟨n, _, h1, h2, h3, hpost _ _ _ _ _ _ ⟨Cond.after_iff.mpr rfl, Cond.after_iff.mpr (eq_i res_at (Term.int_eval (1)) rfl), trivial⟩ ⟨hq.1, hq.2.1, (hq.2.2.sift fun y hy => Or.inr (N y hy)).mono (by decide) (by decide)⟩⟩
theorem main_1_1 : Claimed_1_1 := comes_1 fun _ _ _ _ _ _ h hF => ⟨h.1, hF⟩
theorem main_1_2 : Claimed_1_2 := comes_1 fun _ _ _ _ _ _ h hF => ⟨h.2.1, hF⟩
end Jvm.Pilot.@@N@@
namespace Jvm.Pilot.@@N@@
open Jvm Jvm.ClassFile Sem Op Lib Jvm.Free Jvm.Stand Jvm.Pilot.@@N@@.Jvm.D
/-! MADE BY PROGRAM (witnessworld.py) out of the Statement's table words and the real class files: 9 classes; the members and pool entries that the words name. The judged class is class 1, her method 3. -/
namespace start1
open Jvm.ClassFile
def u (s : String) : CpInfo := .utf8 (stringToUtf16 s)
/-- a pool by its gaps: so many unusable entries, then the entry; so many at the end -/
def gap : Nat → List CpInfo → List CpInfo
  | 0, r => r
  | n + 1, r => .unusable :: gap n r
def poolList (es : List (Nat × CpInfo)) (last : Nat) : List CpInfo := es.foldr (fun e r => gap e.1 (e.2 :: r)) (gap last [])
def pool (es : List (Nat × CpInfo)) (last : Nat) : Array CpInfo := ⟨poolList es last⟩
def fileOf (pool : Array CpInfo) (this : Nat) (attrs : Array Attribute := #[]) (ms : Array MethodInfo := #[]) (fl : Nat := 33) (sup : Nat := 0) (ifs : Array Nat := #[]) (fds : Array FieldInfo := #[]) : ClassFile where
  minorVersion := 0
  majorVersion := 65
  constantPool := pool
  accessFlags := fl
  thisClass := this
  superClass := sup
  interfaces := ifs
  fields := fds
  methods := ms
  attributes := attrs
def plain (name : String) (sup : Option ClassId) : Class where
  name := name
  kind := .ordinary
  loader := none
  accessFlags := 33
  super := sup
  interfaces := #[]
  cf := none
  fields := #[]
  methods := #[]
  instanceTypes := #[]
  staticTypes := #[]
  resolved := #[]
  callSites := []
  init := .initialized
  statics := none
  mirror := none

def pool0 : Array CpInfo := pool [(5, u "<init>"), (0, u "()V"), (1, .class_ 10), (1, u "java/lang/Object")] 113

def k0m0 : Method := { name := "<init>", desc := "()V", sig := { parameters := [], returnType := none }, accessFlags := 1, code := none }
/-- java/lang/Object -/
def k0 : Class := { plain "java/lang/Object" none with
  accessFlags := 33
  interfaces := #[]
  cf := some (fileOf pool0 8 #[] #[{ accessFlags := 1, nameIndex := 5, descriptorIndex := 6, attributes := #[] }] 33 0 #[] #[])
  fields := #[]
  methods := #[k0m0]
  instanceTypes := #[]
  staticTypes := #[]
  resolved := Array.replicate 124 none
  statics := none }

def pool1 : Array CpInfo := pool [(2, .class_ 4), (1, u "java/lang/Object"), (0, u "<init>"), (0, u "()V"), (2, .integer 2147483648), (0, .integer 55295), (0, .integer 55296), (0, .integer 57343), (0, .integer 57344), (0, .integer 65533), (0, .integer 65534), (0, .integer 65535), (0, .integer 65536), (0, .integer 1114111), (0, .integer 1114112), (0, .integer 2147483647), (0, .methodref 22 23), (0, .class_ 24), (0, .nameAndType 25 26), (0, u "com/example/inked_rows/inkedrows/xml/XmlNamesIsXmlCharPinLaw"), (0, u "pick"), (0, u "(III)I"), (0, .methodref 28 29), (0, .class_ 30), (0, .nameAndType 31 32), (0, u "com/example/inked_rows/inkedrows/xml/XmlNames"), (0, u "isXmlChar"), (0, u "(I)Z"), (0, .methodref 22 34), (0, .nameAndType 35 32), (0, u "expected"), (3, u "law"), (0, u "(III)Z")] 2

def k1m0 : Method := { name := "<init>", desc := "()V", sig := { parameters := [], returnType := none }, accessFlags := 1, code := none }
def k1c1 : Code := { maxStack := 4, maxLocals := 6, code := method_2_code, exceptionTable := #[], attributes := #[] }
def k1m1 : Method := { name := "pick", desc := "(III)I", sig := { parameters := [.int, .int, .int], returnType := some .int }, accessFlags := 10, code := some k1c1 }
def k1c2 : Code := { maxStack := 2, maxLocals := 2, code := method_3_code, exceptionTable := #[], attributes := #[] }
def k1m2 : Method := { name := "expected", desc := "(I)Z", sig := { parameters := [.int], returnType := some .boolean }, accessFlags := 10, code := some k1c2 }
def k1c3 : Code := { maxStack := 3, maxLocals := 4, code := code, exceptionTable := #[], attributes := #[] }
def k1m3 : Method := { name := "law", desc := "(III)Z", sig := { parameters := [.int, .int, .int], returnType := some .boolean }, accessFlags := 9, code := some k1c3 }
/-- com/example/inked_rows/inkedrows/xml/XmlNamesIsXmlCharPinLaw -/
def k1 : Class := { plain "com/example/inked_rows/inkedrows/xml/XmlNamesIsXmlCharPinLaw" (some 0) with
  accessFlags := 49
  interfaces := #[]
  cf := some (fileOf pool1 22 #[] #[{ accessFlags := 1, nameIndex := 5, descriptorIndex := 6, attributes := #[] }, { accessFlags := 10, nameIndex := 25, descriptorIndex := 26, attributes := #[] }, { accessFlags := 10, nameIndex := 35, descriptorIndex := 32, attributes := #[] }, { accessFlags := 9, nameIndex := 39, descriptorIndex := 40, attributes := #[] }] 49 2 #[] #[])
  fields := #[]
  methods := #[k1m0, k1m1, k1m2, k1m3]
  instanceTypes := #[]
  staticTypes := #[]
  resolved := Array.replicate 43 none
  statics := none }

def pool2 : Array CpInfo := pool [(2, .class_ 4), (1, u "java/lang/Object"), (0, u "<init>"), (0, u "()V"), (1, .class_ 10), (1, u "com/example/inked_rows/inkedrows/xml/XmlNames"), (0, u "NAME_START_CHARS"), (0, u "[[I"), (7, u "(I)Z"), (2, u "OTHER_NAME_CHARS"), (3, .integer 55295), (0, .integer 57344), (0, .integer 65533), (0, .integer 65536), (0, .integer 1114111), (158, u "isXmlChar")] 47

def k2m0 : Method := { name := "<init>", desc := "()V", sig := { parameters := [], returnType := none }, accessFlags := 2, code := none }
def k2c1 : Code := { maxStack := 2, maxLocals := 1, code := prog_143_method_6_code, exceptionTable := #[], attributes := #[] }
def k2m1 : Method := { name := "isXmlChar", desc := "(I)Z", sig := { parameters := [.int], returnType := some .boolean }, accessFlags := 9, code := some k2c1 }
/-- com/example/inked_rows/inkedrows/xml/XmlNames -/
def k2 : Class := { plain "com/example/inked_rows/inkedrows/xml/XmlNames" (some 0) with
  accessFlags := 49
  interfaces := #[]
  cf := some (fileOf pool2 8 #[] #[{ accessFlags := 2, nameIndex := 5, descriptorIndex := 6, attributes := #[] }, { accessFlags := 9, nameIndex := 190, descriptorIndex := 20, attributes := #[] }] 49 2 #[] #[{ accessFlags := 26, nameIndex := 11, descriptorIndex := 12, attributes := #[] }, { accessFlags := 26, nameIndex := 23, descriptorIndex := 12, attributes := #[] }])
  fields := #[{ name := "NAME_START_CHARS", type := (.array (.array .int)), accessFlags := 26, slot := 0, constantValue := 0 }, { name := "OTHER_NAME_CHARS", type := (.array (.array .int)), accessFlags := 26, slot := 1, constantValue := 0 }]
  methods := #[k2m0, k2m1]
  instanceTypes := #[]
  staticTypes := #[(.array (.array .int)), (.array (.array .int))]
  resolved := Array.replicate 238 none
  statics := none }

def pool3 : Array CpInfo := pool [(1, u "java/lang/Cloneable"), (0, .class_ 1), (0, u "java/lang/Object"), (0, .class_ 3)] 3

/-- java/lang/Cloneable -/
def k3 : Class := { plain "java/lang/Cloneable" (some 0) with
  accessFlags := 1537
  interfaces := #[]
  cf := some (fileOf pool3 2 #[] #[] 1537 4 #[] #[])
  fields := #[]
  methods := #[]
  instanceTypes := #[]
  staticTypes := #[]
  resolved := Array.replicate 8 none
  statics := none }

def pool4 : Array CpInfo := pool [(1, u "java/io/Serializable"), (0, .class_ 1), (0, u "java/lang/Object"), (0, .class_ 3)] 3

/-- java/io/Serializable -/
def k4 : Class := { plain "java/io/Serializable" (some 0) with
  accessFlags := 1537
  interfaces := #[]
  cf := some (fileOf pool4 2 #[] #[] 1537 4 #[] #[])
  fields := #[]
  methods := #[]
  instanceTypes := #[]
  staticTypes := #[]
  resolved := Array.replicate 8 none
  statics := none }

/-- the primitive byte -/
def k5 : Class := { plain "byte" none with kind := .primitive 'B', accessFlags := 0x411 }
/-- [B -/
def k6 : Class := { plain "[B" (some 0) with kind := .array 5 .byte, interfaces := #[3, 4], accessFlags := 1041 }

/-- the primitive int -/
def k7 : Class := { plain "int" none with kind := .primitive 'I', accessFlags := 0x411 }
/-- [I -/
def k8 : Class := { plain "[I" (some 0) with kind := .array 7 .int, interfaces := #[3, 4], accessFlags := 1041 }

def heap : Heap := #[]
def classes : Array Class := #[k0, k1, k2, k3, k4, k5, k6, k7, k8]
def interned : List (Array UInt16 × Addr) := []
def slotsUsed : Nat := 0
def theMethod : MethodId := ⟨1, 3⟩
def args0 : Array Value := #[.int 5, .int 300, .int 7]
def aboutOver (below : List Frame) : State where
  vm := { classes := classes, interned := interned.toArray }
  heap := heap
  slotsUsed := slotsUsed
  threads := #[{ frames := .invoking theMethod args0 :: below }]
def below0 : List Frame := [.native { method := ⟨0, 0⟩, args := #[] }]
def about1 : State := aboutOver below0
def p0 : Program := .bare "" "" ""
def e0 : Env := launch0.env 0 0 0
theorem w_frames : about1.frames = Frame.invoking theMethod args0 :: below0 := rfl
set_option maxRecDepth 65536 in
theorem w_args : argsFit about1.vm theMethod args0 = true := by decide +kernel
set_option maxRecDepth 65536 in
theorem w_heap : heapFits about1 = true := by decide +kernel
set_option maxRecDepth 65536 in
theorem w_runnable : about1.curStatus? = some .runnable := by decide +kernel
set_option maxRecDepth 65536 in
theorem w_alone : about1.alone = true := by decide +kernel
set_option maxRecDepth 65536 in
theorem w_named : about1.methodNamed? x = some theMethod := by decide +kernel
set_option maxRecDepth 65536 in
theorem w_hears : about1.hears theMethod below0 = true := by decide +kernel
set_option maxRecDepth 65536 in
theorem w_ripe : about1.ripe theMethod args0 below0 = true := by decide +kernel
theorem w_running : about1.status = .running := rfl
set_option maxRecDepth 65536 in
theorem w_room : about1.hasRoom e0.platform room_1 = true :=
  launch0.hasRoom_least _ room_1 (by decide +kernel) (by decide +kernel) (by decide +kernel) (by decide +kernel) (by decide +kernel) (by decide +kernel)
theorem allAtoms_all (ts : List Jvm.Cond) (a : Array Jvm.Value) (st : Jvm.State) : (allAtoms ts).before a st = ts.all (fun c => c.before a st) := by
  induction ts with
  | nil => rfl
  | cons c t ih =>
    show (Jvm.Cond.and c (allAtoms t)).before a st = _
    rw [Jvm.Cond.before_and, ih, List.all_cons]
def words1 : List Jvm.Cond := Jvm.Cond.code x code maxLocals ret :: tables_1
/-- a 'code' word, met by the world's own term for the bytes: nothing is compared byte by byte -/
theorem code_word {y : MethodName} {bytes : ByteArray} {mx : Nat} {rt : Option FieldType} {a : Array Value} {s : State} {m : MethodId} {meth : Method} {c : Code} (h1 : s.methodNamed? y = some m) (h2 : s.vm.method? m = some meth) (h3 : meth.code = some c) (h4 : c.code = bytes)
    (h5 : (c.maxLocals == mx && c.exceptionTable.isEmpty && decide (c.maxStack ≤ mostOperands) && decide (meth.sig.returnType = rt) && !meth.locks && decide (parseMethodDescriptor y.desc = some meth.sig)) = true) : (Jvm.Cond.code y bytes mx rt).before a s = true := by
  simp only [Bool.and_eq_true, beq_iff_eq, Bool.not_eq_true', decide_eq_true_eq] at h5
  obtain ⟨⟨⟨⟨⟨g1, g2⟩, g3⟩, g4⟩, g5⟩, g6⟩ := h5
  simp [Cond.before, Cond.holds, Cond.value, h1, h2, h3, h4, g1, g2, g3, g4, g5, g6]
def isCode : Jvm.Cond → Bool
  | .code _ _ _ _ => true
  | _ => false
theorem all_split {L : List Jvm.Cond} {P : Jvm.Cond → Bool} (h1 : L.all (fun c => isCode c || P c) = true) (h2 : ∀ c ∈ L.filter isCode, P c = true) : L.all P = true := by
  refine List.all_eq_true.mpr fun c hc => ?_
  have h := List.all_eq_true.mp h1 c hc
  rcases Bool.eq_false_or_eq_true (isCode c) with hi | hi
  · exact h2 c (List.mem_filter.mpr ⟨hc, hi⟩)
  · simpa [hi] using h
set_option maxRecDepth 65536 in
theorem w_c0 : (Jvm.Cond.code x code maxLocals ret).before args0 about1 = true := code_word (m := ⟨1, 3⟩) (meth := k1m3) (c := k1c3) (by decide +kernel) rfl rfl rfl (by decide +kernel)
set_option maxRecDepth 65536 in
theorem w_c1 : (Jvm.Cond.code ({ cls := "com/example/inked_rows/inkedrows/xml/XmlNamesIsXmlCharPinLaw", name := "pick", desc := "(III)I" } : Jvm.MethodName) method_2_code (6 : Nat) (Option.some Jvm.ClassFile.FieldType.int)).before args0 about1 = true := code_word (m := ⟨1, 1⟩) (meth := k1m1) (c := k1c1) (by decide +kernel) rfl rfl rfl (by decide +kernel)
set_option maxRecDepth 65536 in
theorem w_c2 : (Jvm.Cond.code ({ cls := "com/example/inked_rows/inkedrows/xml/XmlNames", name := "isXmlChar", desc := "(I)Z" } : Jvm.MethodName) prog_143_method_6_code (1 : Nat) (Option.some Jvm.ClassFile.FieldType.boolean)).before args0 about1 = true := code_word (m := ⟨2, 1⟩) (meth := k2m1) (c := k2c1) (by decide +kernel) rfl rfl rfl (by decide +kernel)
set_option maxRecDepth 65536 in
theorem w_c3 : (Jvm.Cond.code ({ cls := "com/example/inked_rows/inkedrows/xml/XmlNamesIsXmlCharPinLaw", name := "expected", desc := "(I)Z" } : Jvm.MethodName) method_3_code (2 : Nat) (Option.some Jvm.ClassFile.FieldType.boolean)).before args0 about1 = true := code_word (m := ⟨1, 2⟩) (meth := k1m2) (c := k1c2) (by decide +kernel) rfl rfl rfl (by decide +kernel)
def codes1 : List Jvm.Cond := [Jvm.Cond.code x code maxLocals ret, Jvm.Cond.code ({ cls := "com/example/inked_rows/inkedrows/xml/XmlNamesIsXmlCharPinLaw", name := "pick", desc := "(III)I" } : Jvm.MethodName) method_2_code (6 : Nat) (Option.some Jvm.ClassFile.FieldType.int), Jvm.Cond.code ({ cls := "com/example/inked_rows/inkedrows/xml/XmlNames", name := "isXmlChar", desc := "(I)Z" } : Jvm.MethodName) prog_143_method_6_code (1 : Nat) (Option.some Jvm.ClassFile.FieldType.boolean), Jvm.Cond.code ({ cls := "com/example/inked_rows/inkedrows/xml/XmlNamesIsXmlCharPinLaw", name := "expected", desc := "(I)Z" } : Jvm.MethodName) method_3_code (2 : Nat) (Option.some Jvm.ClassFile.FieldType.boolean)]
set_option maxRecDepth 65536 in
theorem codes_eq : words1.filter isCode = codes1 := rfl
theorem w_codes : ∀ c ∈ words1.filter isCode, c.before args0 about1 = true := by
  rw [codes_eq]
  intro c hc
  simp only [codes1, List.mem_cons, List.not_mem_nil, or_false] at hc
  rcases hc with rfl | rfl | rfl | rfl
  · exact w_c0
  · exact w_c1
  · exact w_c2
  · exact w_c3
set_option maxRecDepth 65536 in
theorem w_t1 : (words1.take 24).all (fun c => isCode c || c.before args0 about1) = true := by decide +kernel
set_option maxRecDepth 65536 in
theorem w_t2 : (words1.drop 24).all (fun c => isCode c || c.before args0 about1) = true := by decide +kernel
theorem w_tables : (allAtoms (Jvm.Cond.code x code maxLocals ret :: tables_1)).before args0 about1 = true := by
  rw [allAtoms_all]
  show words1.all (fun c => c.before args0 about1) = true
  refine all_split ?_ w_codes
  rw [← List.take_append_drop 24 words1, List.all_append, w_t1, w_t2]
  rfl
set_option maxRecDepth 65536 in
theorem w_case : (Jvm.Cond.and given_1 narrow_1).before args0 about1 = true := by decide +kernel
theorem w_applies : (headSpec (Jvm.Cond.code x code maxLocals ret :: tables_1) room_1).applies x e0.platform about1 = true :=
  (Spec.applies_iff w_frames).mpr ⟨w_running, w_runnable, w_alone, w_named, w_hears, w_ripe, w_room, w_tables⟩
theorem atStart : AtStart classFile x code maxLocals ret World_1 tables_1 room_1 Calls_1 rest_1 Pre_1 launch0 p0 e0 about1 theMethod args0 below0 :=
  ⟨lists_1, trivial, launch0.admits_env _ _ _, launch0.least_env, fairChoices_fair.cas, fairChoices_fair.clock, w_frames, w_args, w_heap, w_applies, trivial, trivial, w_case⟩
end start1
theorem witness_1 : WitnessClaimed_1 := ⟨start1.p0, start1.e0, start1.about1, start1.theMethod, start1.args0, start1.below0, start1.atStart⟩
end Jvm.Pilot.@@N@@
