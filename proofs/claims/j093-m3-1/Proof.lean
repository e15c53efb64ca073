import JvmDerived
import JvmDerived.Pilot.@@N@@Statement
import JvmDerived.Pilot.@@N@@Code
set_option linter.unusedVariables false
set_option linter.unusedSimpArgs false
namespace Jvm.RoadKit
open Sem ClassFile Op Lib Jvm.Stand Jvm.Free Jvm.LawKit
section New
variable {p : Program} {l : Launch} {e : Env} {R : Room} {s : State} {m : MethodId} {args : Array Value} {below : List Frame} {meth : Method} {c : Code} {T : State} {locs : List Loc} {cells slots : Nat}
theorem retI (X : Stand p l e R s m args below meth c T locs cells slots) (hx : p.tables.exec = Jvm.exec) {pc : Nat} {Ls : Array Slot} {z : Int32} {rest : List Value} (hret : meth.sig.returnType = some .int) (hd : decode c.code pc = .ok (.ireturn, 1)) {fs : List Frame}
    (hl : ∀ (f : JFrame) (acts : List Action), f.method = m → f.locked = none → f.entered = [] → (doReturn e (T.setTop f) acts (some (.int z))).1 = T.setFrames fs) : Steps p.tables e below (T.setTop (mkF m pc Ls (.int z :: rest))) (T.setFrames fs) := by
  have hm' : T.vm.method? m = some meth := X.method'
  have hn : narrow .int (.int z) = .int z := rfl
  show Steps p.tables e below (T.setTop { method := m, pc := pc, locals := Ls, stack := _ :: rest, locked := none }) _
  jvm_step X.here [X.here.top, hx, hd, hm', hret, hn]
  first | (intro acts; rw [hl _ acts rfl rfl rfl]) | rw [hl _ _ rfl rfl rfl]
  exact Steps.refl _
end New
end Jvm.RoadKit
namespace Jvm.Pilot.@@N@@
open Jvm Jvm.ClassFile Sem Op Lib Jvm.Free Jvm.Stand Jvm.LawKit Jvm.RoadKit Bundle Jvm.Pilot.@@N@@.Jvm.D
def remV (q0 q1 : Int64) : Int64 := if q1 < (0 : Int64) then (q0 - (((q0 &&& ((q0 - q1) ^^^ (-1 : Int64))) >>> ((63 : Int32) &&& 0x3f).toInt64) &&& q1)) else ((q0 - (((((q0.toUInt64 >>> ((1 : Int32) &&& 0x3f).toInt64.toUInt64).toInt64) / q1) <<< ((1 : Int32) &&& 0x3f).toInt64) * q1)) - (((((q0 - (((((q0.toUInt64 >>> ((1 : Int32) &&& 0x3f).toInt64.toUInt64).toInt64) / q1) <<< ((1 : Int32) &&& 0x3f).toInt64) * q1)) - q1) ^^^ (-1 : Int64)) >>> ((63 : Int32) &&& 0x3f).toInt64) &&& q1))
def wrapV (q0 : Int64) : Int64 := if ((remV (-1 : Int64) q0) + (1 : Int64)) = q0 then 0 else ((remV (-1 : Int64) q0) + (1 : Int64))
def refV (q0 : Int64) : Int64 := if q0 < (0 : Int64) then (if q0 = (-9223372036854775808 : Int64) then 0 else (-q0)) else (if ((((9223372036854775807 : Int64) - ((9223372036854775807 : Int64) / q0) * q0) + (1 : Int64)) - ((((9223372036854775807 : Int64) - ((9223372036854775807 : Int64) / q0) * q0) + (1 : Int64)) / q0) * q0) < (q0 - ((((9223372036854775807 : Int64) - ((9223372036854775807 : Int64) / q0) * q0) + (1 : Int64)) - ((((9223372036854775807 : Int64) - ((9223372036854775807 : Int64) / q0) * q0) + (1 : Int64)) / q0) * q0)) then (((((9223372036854775807 : Int64) - ((9223372036854775807 : Int64) / q0) * q0) + (1 : Int64)) - ((((9223372036854775807 : Int64) - ((9223372036854775807 : Int64) / q0) * q0) + (1 : Int64)) / q0) * q0) + ((((9223372036854775807 : Int64) - ((9223372036854775807 : Int64) / q0) * q0) + (1 : Int64)) - ((((9223372036854775807 : Int64) - ((9223372036854775807 : Int64) / q0) * q0) + (1 : Int64)) / q0) * q0)) else (((((9223372036854775807 : Int64) - ((9223372036854775807 : Int64) / q0) * q0) + (1 : Int64)) - ((((9223372036854775807 : Int64) - ((9223372036854775807 : Int64) / q0) * q0) + (1 : Int64)) / q0) * q0) - (q0 - ((((9223372036854775807 : Int64) - ((9223372036854775807 : Int64) / q0) * q0) + (1 : Int64)) - ((((9223372036854775807 : Int64) - ((9223372036854775807 : Int64) / q0) * q0) + (1 : Int64)) / q0) * q0))))
theorem own_sar (x : Int64) : (x >>> ((63 : Int32) &&& 0x3f).toInt64) = if x.toInt < 0 then -1 else 0 := by
  apply Int64.toInt_inj.mp
  have h1 := x.toInt_lt; have h2 := x.le_toInt
  have e : ((x >>> ((63 : Int32) &&& 0x3f).toInt64)).toInt = x.toInt >>> 63 := by
    show (BitVec.sshiftRight x.toBitVec 63).toInt = _
    rw [BitVec.toInt_sshiftRight]; rfl
  rw [e, Int.shiftRight_eq_div_pow]
  split
  · show x.toInt / 9223372036854775808 = -1; omega
  · show x.toInt / 9223372036854775808 = 0; omega
theorem own_m1_and (x : Int64) : (-1 : Int64) &&& x = x := by
  apply Int64.toBitVec_inj.mp
  rw [Int64.toBitVec_and]
  exact BitVec.allOnes_and
theorem own_0_and (x : Int64) : (0 : Int64) &&& x = 0 := by
  apply Int64.toBitVec_inj.mp
  rw [Int64.toBitVec_and]
  exact BitVec.zero_and
theorem own_not (x : Int64) : (x ^^^ (-1 : Int64)).toInt = - x.toInt - 1 := by
  have e : x ^^^ (-1 : Int64) = ~~~ x := by
    apply Int64.toBitVec_inj.mp
    rw [Int64.toBitVec_xor, Int64.toBitVec_not]
    exact BitVec.xor_allOnes
  rw [e]
  have h1 := x.toInt_lt; have h2 := x.le_toInt
  rw [Int64.toInt_not]
  exact Int.bmod_eq_of_le (by omega) (by omega)
theorem own_shl1 (x : Int64) : (x <<< ((1 : Int32) &&& 0x3f).toInt64) = x + x := by
  apply Int64.toBitVec_inj.mp
  rw [Int64.toBitVec_add]
  apply BitVec.eq_of_toNat_eq
  rw [BitVec.toNat_add]
  show (x.toBitVec <<< (1 : Nat)).toNat = _
  rw [BitVec.toNat_shiftLeft, Nat.shiftLeft_eq]
  congr 1; omega
theorem own_neg (q0 : Int64) (hn : q0 < 0) : wrapV q0 = refV q0 := by
  have h1 := q0.toInt_lt; have h2 := q0.le_toInt
  have hn' : q0.toInt < 0 := Int64.lt_iff_toInt_lt.mp hn
  have em1 : Unit → (-1 : Int64).toInt = -1 := fun _ => rfl
  have e1 : Unit → (1 : Int64).toInt = 1 := fun _ => rfl
  have hx : Unit → ((-1 : Int64) - q0).toInt = -1 - q0.toInt := fun _ => by
    rw [Int64.toInt_sub, em1 ()]; exact Int.bmod_eq_of_le (by omega) (by omega)
  have hrem : remV (-1) q0 = -1 - q0 := by
    unfold remV
    rw [if_pos hn, own_m1_and, own_sar, own_not, hx (), if_pos (by omega), own_m1_and]
  have hw : Unit → (remV (-1) q0 + 1).toInt = Int.bmod (- q0.toInt) (2 ^ 64) := fun _ => by
    rw [hrem, Int64.toInt_add, hx (), e1 (), show -1 - q0.toInt + 1 = -q0.toInt by omega]
  have hw2 : remV (-1) q0 + 1 = - q0 := by
    apply Int64.toInt_inj.mp
    rw [hw (), Int64.toInt_neg]
  unfold wrapV refV
  rw [hw2, if_pos hn]
  by_cases hm : q0 = (-9223372036854775808 : Int64)
  · have hmm : -q0 = q0 := by rw [hm]; rfl
    rw [if_pos hm, if_pos hmm]
  · rw [if_neg hm, if_neg]
    intro h
    have h' := congrArg Int64.toInt h
    have hm' : q0.toInt ≠ -9223372036854775808 := fun q => hm (Int64.toInt_inj.mp q)
    rw [Int64.toInt_neg, Int.bmod_eq_of_le (by omega) (by omega)] at h'
    omega
theorem own_pos (q0 : Int64) (hn : ¬ q0 < 0) (hq : ¬ q0 = 0) : wrapV q0 = refV q0 := by
  have h1 := q0.toInt_lt; have h2 := q0.le_toInt
  have hq' : q0.toInt ≠ 0 := fun h => hq (Int64.toInt_inj.mp h)
  have hn' : 0 < q0.toInt := by
    have : ¬ q0.toInt < 0 := fun h => hn (Int64.lt_iff_toInt_lt.mpr h)
    omega
  obtain ⟨b, hb⟩ : ∃ b, b = q0.toInt := ⟨_, rfl⟩
  have em1 : Unit → (-1 : Int64).toInt = -1 := fun _ => rfl
  have e1 : Unit → (1 : Int64).toInt = 1 := fun _ => rfl
  have hM : Unit → (9223372036854775807 : Int64).toInt = 9223372036854775807 := fun _ => rfl
  obtain ⟨dd, hdd⟩ : ∃ z, z = (9223372036854775807 : Int) / b := ⟨_, rfl⟩
  have hd0 : 0 ≤ dd := by rw [hdd]; exact Int.ediv_nonneg (by decide) (by omega)
  have hd1 : dd ≤ 9223372036854775807 := by rw [hdd]; exact Int.ediv_le_self _ (by decide)
  have hd : Unit → ((9223372036854775807 : Int64) / q0).toInt = dd := fun _ => by
    rw [Int64.toInt_div, hM (), Int.tdiv_eq_ediv_of_nonneg (by decide), ← hb, ← hdd]
    exact Int.bmod_eq_of_le (by omega) (by omega)
  obtain ⟨k, hk⟩ : ∃ k, k = dd * b := ⟨_, rfl⟩
  obtain ⟨m0, hm0e⟩ : ∃ m, m = (9223372036854775807 : Int) % b := ⟨_, rfl⟩
  have hdm : m0 + k = 9223372036854775807 := by
    have := Int.emod_add_mul_ediv 9223372036854775807 b
    rw [← hm0e, ← hdd, Int.mul_comm, ← hk] at this; exact this
  have hm0 : 0 ≤ m0 := by rw [hm0e]; exact Int.emod_nonneg _ (by omega)
  have hm1 : m0 < b := by rw [hm0e]; exact Int.emod_lt_of_pos _ (by omega)
  rw [← hb] at h1 h2 hn'
  have hkm : Unit → ((9223372036854775807 : Int64) / q0 * q0).toInt = k := fun _ => by
    rw [Int64.toInt_mul, hd (), ← hb, ← hk]; exact Int.bmod_eq_of_le (by omega) (by omega)
  have hr1 : Unit → (((9223372036854775807 : Int64) - ((9223372036854775807 : Int64) / q0) * q0)).toInt = m0 := fun _ => by
    rw [Int64.toInt_sub, hM (), hkm (), Int.bmod_eq_of_le (by omega) (by omega)]; omega
  have hm1e : Unit → ((((9223372036854775807 : Int64) - ((9223372036854775807 : Int64) / q0) * q0) + (1 : Int64))).toInt = m0 + 1 := fun _ => by
    rw [Int64.toInt_add, hr1 (), e1 ()]; exact Int.bmod_eq_of_le (by omega) (by omega)
  have eq1 : Unit → (((((9223372036854775807 : Int64) - ((9223372036854775807 : Int64) / q0) * q0) + (1 : Int64))) / q0).toInt = if m0 + 1 = b then 1 else 0 := fun _ => by
    rw [Int64.toInt_div, hm1e (), ← hb, Int.tdiv_eq_ediv_of_nonneg (by omega)]
    split
    · next h => rw [h, Int.ediv_self (by omega)]; rfl
    · next h => rw [Int.ediv_eq_zero_of_lt (by omega) (by omega)]; rfl
  have hmm : Unit → (((((9223372036854775807 : Int64) - ((9223372036854775807 : Int64) / q0) * q0) + (1 : Int64)) - ((((9223372036854775807 : Int64) - ((9223372036854775807 : Int64) / q0) * q0) + (1 : Int64)) / q0) * q0)).toInt = if m0 + 1 = b then 0 else m0 + 1 := fun _ => by
    rw [Int64.toInt_sub, Int64.toInt_mul, hm1e (), eq1 (), ← hb]
    split
    · next h => rw [Int.one_mul, Int.bmod_eq_of_le (n := b) (by omega) (by omega), h, Int.sub_self]; rfl
    · next h => rw [Int.zero_mul, show Int.bmod 0 (2 ^ 64) = 0 from rfl, Int.sub_zero]; exact Int.bmod_eq_of_le (by omega) (by omega)
  have hsh : Unit → ((((-1 : Int64).toUInt64 >>> ((1 : Int32) &&& 0x3f).toInt64.toUInt64).toInt64)) = (9223372036854775807 : Int64) := fun _ => rfl
  obtain ⟨rr, hrr⟩ : ∃ z : Int64, z = ((-1 : Int64) - ((9223372036854775807 : Int64) / q0 + (9223372036854775807 : Int64) / q0) * q0) := ⟨_, rfl⟩
  have er : Unit → rr.toInt = Int.bmod (2 * m0 + 1) (2 ^ 64) := fun _ => by
    rw [hrr, Int64.toInt_sub, Int64.toInt_mul, Int64.toInt_add, hd (), em1 (), ← hb, Int.bmod_mul_bmod, Int.sub_bmod_bmod, Int.add_mul, ← hk]
    have : -1 - (k + k) = (2 * m0 + 1) + (-18446744073709551616) := by omega
    rw [this]
    show Int.bmod ((2 * m0 + 1) + -18446744073709551616) 18446744073709551616 = Int.bmod (2 * m0 + 1) 18446744073709551616
    rw [← Int.add_bmod_bmod, show Int.bmod (-18446744073709551616) 18446744073709551616 = 0 from rfl, Int.add_zero]
  have erb : Unit → (rr - q0).toInt = 2 * m0 + 1 - b := fun _ => by
    rw [Int64.toInt_sub, er (), ← hb, Int.bmod_sub_bmod]; exact Int.bmod_eq_of_le (by omega) (by omega)
  have hrem : remV (-1) q0 = if 2 * m0 + 1 < b then rr else rr - q0 := by
    unfold remV
    rw [if_neg hn, hsh (), own_shl1, ← hrr, own_sar, own_not, erb ()]
    by_cases hlt : 2 * m0 + 1 < b
    · rw [if_neg (by omega), own_0_and, if_pos hlt]
      apply Int64.toInt_inj.mp; rw [Int64.toInt_sub, show (0 : Int64).toInt = 0 from rfl, Int.sub_zero, er (), Int.bmod_bmod]
    · rw [if_pos (by omega), own_m1_and, if_neg hlt]
  have hw : Unit → (remV (-1) q0 + 1).toInt = if 2 * m0 + 1 < b then 2 * m0 + 2 else 2 * m0 + 2 - b := fun _ => by
    rw [hrem]
    split
    · next h => rw [Int64.toInt_add, er (), e1 (), Int.bmod_add_bmod]; exact (Int.bmod_eq_of_le (by omega) (by omega)).trans (by omega)
    · next h => rw [Int64.toInt_add, erb (), e1 ()]; exact (Int.bmod_eq_of_le (by omega) (by omega)).trans (by omega)
  obtain ⟨ww, hww⟩ : ∃ z : Int64, z = remV (-1) q0 + 1 := ⟨_, rfl⟩
  obtain ⟨mm, hmmd⟩ : ∃ z : Int64, z = ((((9223372036854775807 : Int64) - ((9223372036854775807 : Int64) / q0) * q0) + (1 : Int64)) - ((((9223372036854775807 : Int64) - ((9223372036854775807 : Int64) / q0) * q0) + (1 : Int64)) / q0) * q0) := ⟨_, rfl⟩
  unfold wrapV refV
  rw [if_neg hn, ← hww, ← hmmd]
  rw [← hww] at hw
  rw [← hmmd] at hmm
  have hrest : Unit → (q0 - mm).toInt = b - mm.toInt := fun _ => by
    rw [Int64.toInt_sub, ← hb]; rw [hmm ()]; split <;> exact Int.bmod_eq_of_le (by omega) (by omega)
  apply Int64.toInt_inj.mp
  have hw0 : (ww = q0) ↔ ww.toInt = b := by rw [hb]; exact Int64.toInt_inj.symm
  have c2 : (mm < q0 - mm) ↔ mm.toInt < b - mm.toInt := by rw [Int64.lt_iff_toInt_lt, hrest ()]
  by_cases hA : mm < q0 - mm
  · rw [if_pos hA]
    have hA' := c2.mp hA
    have es : Unit → (mm + mm).toInt = mm.toInt + mm.toInt := fun _ => by
      rw [Int64.toInt_add]; rw [hmm ()] at hA' ⊢; split at hA' <;> split <;> exact Int.bmod_eq_of_le (by omega) (by omega)
    rw [es ()]
    by_cases hB : ww = q0
    · rw [if_pos hB]
      have hB' := hw0.mp hB
      rw [hw ()] at hB'; rw [hmm ()] at hA' ⊢
      show (0 : Int) = _
      split at hB' <;> split at hA' <;> split <;> omega
    · rw [if_neg hB]
      have hB' : ¬ ww.toInt = b := fun q => hB (hw0.mpr q)
      rw [hw ()] at hB' ⊢; rw [hmm ()] at hA' ⊢
      split at hB' <;> split at hA' <;> (repeat' split) <;> omega
  · rw [if_neg hA]
    have hA' : ¬ mm.toInt < b - mm.toInt := fun q => hA (c2.mpr q)
    have es : Unit → (mm - (q0 - mm)).toInt = mm.toInt - (b - mm.toInt) := fun _ => by
      rw [Int64.toInt_sub, hrest ()]; rw [hmm ()] at hA' ⊢; split at hA' <;> split <;> exact Int.bmod_eq_of_le (by omega) (by omega)
    rw [es ()]
    by_cases hB : ww = q0
    · rw [if_pos hB]
      have hB' := hw0.mp hB
      rw [hw ()] at hB'; rw [hmm ()] at hA' ⊢
      show (0 : Int) = _
      split at hB' <;> split at hA' <;> split <;> omega
    · rw [if_neg hB]
      have hB' : ¬ ww.toInt = b := fun q => hB (hw0.mpr q)
      rw [hw ()] at hB' ⊢; rw [hmm ()] at hA' ⊢
      split at hB' <;> split at hA' <;> (repeat' split) <;> omega
theorem own_bits (q0 : Int64) : (if q0 = (0 : Int64) then (1 : Int64) else q0) ≠ 0 := by
  by_cases h : q0 = (0 : Int64)
  · rw [if_pos h]; decide
  · rw [if_neg h]; exact h
theorem own_law (q0 : Int64) (hq : ¬ q0 = 0) : wrapV q0 = refV q0 := by
  by_cases hn : q0 < 0
  · exact own_neg q0 hn
  · exact own_pos q0 hn hq
theorem d2_0 : decode jdk_35_method_45_code 0 = .ok (.lload_n 2, 1) := by decide +kernel
theorem d2_1 : decode jdk_35_method_45_code 1 = .ok (.lconst 0, 1) := by decide +kernel
theorem d2_2 : decode jdk_35_method_45_code 2 = .ok (.lcmp, 1) := by decide +kernel
theorem d2_3 : decode jdk_35_method_45_code 3 = .ok (.ifCond .lt 37, 3) := by decide +kernel
theorem d2_6 : decode jdk_35_method_45_code 6 = .ok (.lload_n 0, 1) := by decide +kernel
theorem d2_7 : decode jdk_35_method_45_code 7 = .ok (.iconst 1, 1) := by decide +kernel
theorem d2_8 : decode jdk_35_method_45_code 8 = .ok (.lushr, 1) := by decide +kernel
theorem d2_9 : decode jdk_35_method_45_code 9 = .ok (.lload_n 2, 1) := by decide +kernel
theorem d2_10 : decode jdk_35_method_45_code 10 = .ok (.ldiv, 1) := by decide +kernel
theorem d2_11 : decode jdk_35_method_45_code 11 = .ok (.iconst 1, 1) := by decide +kernel
theorem d2_12 : decode jdk_35_method_45_code 12 = .ok (.lshl, 1) := by decide +kernel
theorem d2_13 : decode jdk_35_method_45_code 13 = .ok (.lstore 4, 2) := by decide +kernel
theorem d2_15 : decode jdk_35_method_45_code 15 = .ok (.lload_n 0, 1) := by decide +kernel
theorem d2_16 : decode jdk_35_method_45_code 16 = .ok (.lload 4, 2) := by decide +kernel
theorem d2_18 : decode jdk_35_method_45_code 18 = .ok (.lload_n 2, 1) := by decide +kernel
theorem d2_19 : decode jdk_35_method_45_code 19 = .ok (.lmul, 1) := by decide +kernel
theorem d2_20 : decode jdk_35_method_45_code 20 = .ok (.lsub, 1) := by decide +kernel
theorem d2_21 : decode jdk_35_method_45_code 21 = .ok (.lstore 6, 2) := by decide +kernel
theorem d2_23 : decode jdk_35_method_45_code 23 = .ok (.lload 6, 2) := by decide +kernel
theorem d2_25 : decode jdk_35_method_45_code 25 = .ok (.lload 6, 2) := by decide +kernel
theorem d2_27 : decode jdk_35_method_45_code 27 = .ok (.lload_n 2, 1) := by decide +kernel
theorem d2_28 : decode jdk_35_method_45_code 28 = .ok (.lsub, 1) := by decide +kernel
theorem d2_29 : decode jdk_35_method_45_code 29 = .ok (.ldc2_w 306, 3) := by decide +kernel
theorem d2_32 : decode jdk_35_method_45_code 32 = .ok (.lxor, 1) := by decide +kernel
theorem d2_33 : decode jdk_35_method_45_code 33 = .ok (.bipush 63, 2) := by decide +kernel
theorem d2_35 : decode jdk_35_method_45_code 35 = .ok (.lshr, 1) := by decide +kernel
theorem d2_36 : decode jdk_35_method_45_code 36 = .ok (.lload_n 2, 1) := by decide +kernel
theorem d2_37 : decode jdk_35_method_45_code 37 = .ok (.land, 1) := by decide +kernel
theorem d2_38 : decode jdk_35_method_45_code 38 = .ok (.lsub, 1) := by decide +kernel
theorem d2_39 : decode jdk_35_method_45_code 39 = .ok (.lreturn, 1) := by decide +kernel
theorem d2_40 : decode jdk_35_method_45_code 40 = .ok (.lload_n 0, 1) := by decide +kernel
theorem d2_41 : decode jdk_35_method_45_code 41 = .ok (.lload_n 0, 1) := by decide +kernel
theorem d2_42 : decode jdk_35_method_45_code 42 = .ok (.lload_n 0, 1) := by decide +kernel
theorem d2_43 : decode jdk_35_method_45_code 43 = .ok (.lload_n 2, 1) := by decide +kernel
theorem d2_44 : decode jdk_35_method_45_code 44 = .ok (.lsub, 1) := by decide +kernel
theorem d2_45 : decode jdk_35_method_45_code 45 = .ok (.ldc2_w 306, 3) := by decide +kernel
theorem d2_48 : decode jdk_35_method_45_code 48 = .ok (.lxor, 1) := by decide +kernel
theorem d2_49 : decode jdk_35_method_45_code 49 = .ok (.land, 1) := by decide +kernel
theorem d2_50 : decode jdk_35_method_45_code 50 = .ok (.bipush 63, 2) := by decide +kernel
theorem d2_52 : decode jdk_35_method_45_code 52 = .ok (.lshr, 1) := by decide +kernel
theorem d2_53 : decode jdk_35_method_45_code 53 = .ok (.lload_n 2, 1) := by decide +kernel
theorem d2_54 : decode jdk_35_method_45_code 54 = .ok (.land, 1) := by decide +kernel
theorem d2_55 : decode jdk_35_method_45_code 55 = .ok (.lsub, 1) := by decide +kernel
theorem d2_56 : decode jdk_35_method_45_code 56 = .ok (.lreturn, 1) := by decide +kernel
theorem pn_0 : plainName "java/lang/Long" = true := by first | (simp [plainName, overriddenIn]; done) | decide +kernel
theorem ef_2 (m : MethodId) (q0 : Int64) (q1 : Int64) : entryFrame m #[(.long q0), (.long q1)] 8 = mkF m 0 #[.val (.long q0), .second, .val (.long q1), .second, .unset, .unset, .unset, .unset] [] := by first | (simp [entryFrame, mkF, argsToLocals, Value.category]; done) | rfl
def Q2 (q0 q1 : Int64) (h0 : Heap) (n0 : Nat) (v : Option Value) (h : Heap) (L : List Loc) : Prop := v = some (.long (remV q0 q1)) ∧ Fr n0 L ∧ h = h0
set_option maxRecDepth 65536 in
set_option maxHeartbeats 40000000 in
theorem rm2 (l : Launch) (Z : State) (a0 : Array Value) (hw : ∀ d ∈ tables_1, d.before a0 Z = true) (ws : List Jvm.Cond) (q0 q1 : Int64) (h0 : Heap) (n0 : Nat) (Z0 : n0 ≤ h0.size) (hnz : q1 ≠ 0) :
    MetFree l (⟨"java/lang/Long", "remainderUnsigned", "(JJ)J"⟩ : MethodName) (head1 (Jvm.Cond.code (⟨"java/lang/Long", "remainderUnsigned", "(JJ)J"⟩ : MethodName) jdk_35_method_45_code 8 (some .long) :: ws) ({ frames := 0, cells := 0, slots := 0, locals := 0 } : Room)) (fun a U => a = #[(.long q0), (.long q1)] ∧ Z.Warmed39 U.vm ∧ U.heap = h0) (fun _ _ _ _ _ => True) (fun _ U o U' => ∃ v L, o = .returned v ∧ Q2 q0 q1 h0 n0 v U'.heap L ∧ FrameEnd U o U' L ({ frames := 0, cells := 0, slots := 0, locals := 0 } : Room).cells ({ frames := 0, cells := 0, slots := 0, locals := 0 } : Room).slots) := by
  refine MetFree.of_bodySF (plainFor_of_name pn_0) hisR ?_
  intro p e s m args below meth c s₁ Bd hml0 hP hK
  obtain ⟨rfl, hZ, hh⟩ := hP
  have hx := Bd.exec
  have hby := Bd.bytes
  have hml : c.maxLocals = 8 := hml0
  have hown : s.vm.findClass "java/lang/Long" = some m.cls := findClass_of_methodNamed Bd.named
  have hnm := (name_of_methodNamed Bd.named Bd.method).1
  have X0 : Stand p l e ({ frames := 0, cells := 0, slots := 0, locals := 0 } : Room) s m #[(.long q0), (.long q1)] below meth c s₁ [] 0 0 := Stand.of_body Bd
  have e0 : s₁.heap = h0 := by rw [← hh, Bd.state]; rfl
  have N0 := Fr.nil n0
  have pre0 : ∀ t, Steps p.tables e below (s₁.setTop (mkF m 0 #[.val (.long q0), .second, .val (.long q1), .second, .unset, .unset, .unset, .unset] [])) t → Steps p.tables e below (s₁.setTop (entryFrame m #[(.long q0), (.long q1)] 8)) t := fun t k => castTop (ef_2 m q0 q1) k
  have pre1 : ∀ t, Steps p.tables e below (s₁.setTop (mkF m 3 #[.val (.long q0), .second, .val (.long q1), .second, .unset, .unset, .unset, .unset] [(.int (lcmpW q1 (0 : Int64)))])) t → Steps p.tables e below (s₁.setTop (entryFrame m #[(.long q0), (.long q1)] 8)) t := fun t kt => pre0 t (by
      show Steps p.tables e below (s₁.setTop (mkF m 0 #[.val (.long q0), .second, .val (.long q1), .second, .unset, .unset, .unset, .unset] [])) _
      refine XS.lloadN X0.here hx rfl (hb hby d2_0) rfl ?_
      show Steps p.tables e below (s₁.setTop (mkF m 1 #[.val (.long q0), .second, .val (.long q1), .second, .unset, .unset, .unset, .unset] [(.long q1)])) _
      refine XS.lconst X0.here hx rfl (hb hby d2_1) ?_
      show Steps p.tables e below (s₁.setTop (mkF m 2 #[.val (.long q0), .second, .val (.long q1), .second, .unset, .unset, .unset, .unset] [(.long (0 : Int64)), (.long q1)])) _
      refine XS.lcmp X0.here hx rfl (hb hby d2_2) rfl ?_
      exact kt)
  by_cases hc3 : q1 < (0 : Int64)
  · obtain ⟨fs, hr, hrun, hended, hW, hsame⟩ := X0.leave (v := some (.long (q0 - (((q0 &&& ((q0 - q1) ^^^ (-1 : Int64))) >>> ((63 : Int32) &&& 0x3f).toInt64) &&& q1)))) (fun h => by rw [Bd.returns] at h; cases h)
    refine ⟨_, _, pre1 _ ?_, hrun, hended, _, _, rfl, ?_, ⟨_, rfl⟩, hW, hsame.mono (by decide) (by decide)⟩
    · show Steps p.tables e below (s₁.setTop (mkF m 3 #[.val (.long q0), .second, .val (.long q1), .second, .unset, .unset, .unset, .unset] [(.int (lcmpW q1 (0 : Int64)))])) _
      refine XS.ifYes X0.here hx rfl (pc0 := 3) (pc' := 40) rfl (hb hby d2_3) rfl ((if0 _ _).trans (tlt (show (lcmpW q1 (0 : Int64)) < (0 : Int32) from ((lw_lt _ _).mpr hc3))).1) (by decide) (by decide) ?_
      show Steps p.tables e below (s₁.setTop (mkF m 40 #[.val (.long q0), .second, .val (.long q1), .second, .unset, .unset, .unset, .unset] [])) _
      refine XS.lloadN X0.here hx rfl (hb hby d2_40) rfl ?_
      show Steps p.tables e below (s₁.setTop (mkF m 41 #[.val (.long q0), .second, .val (.long q1), .second, .unset, .unset, .unset, .unset] [(.long q0)])) _
      refine XS.lloadN X0.here hx rfl (hb hby d2_41) rfl ?_
      show Steps p.tables e below (s₁.setTop (mkF m 42 #[.val (.long q0), .second, .val (.long q1), .second, .unset, .unset, .unset, .unset] [(.long q0), (.long q0)])) _
      refine XS.lloadN X0.here hx rfl (hb hby d2_42) rfl ?_
      show Steps p.tables e below (s₁.setTop (mkF m 43 #[.val (.long q0), .second, .val (.long q1), .second, .unset, .unset, .unset, .unset] [(.long q0), (.long q0), (.long q0)])) _
      refine XS.lloadN X0.here hx rfl (hb hby d2_43) rfl ?_
      show Steps p.tables e below (s₁.setTop (mkF m 44 #[.val (.long q0), .second, .val (.long q1), .second, .unset, .unset, .unset, .unset] [(.long q1), (.long q0), (.long q0), (.long q0)])) _
      refine XS.lsub X0.here hx rfl (hb hby d2_44) rfl ?_
      show Steps p.tables e below (s₁.setTop (mkF m 45 #[.val (.long q0), .second, .val (.long q1), .second, .unset, .unset, .unset, .unset] [(.long (q0 - q1)), (.long q0), (.long q0)])) _
      refine X0.ldc2J hx hown (mvT hZ (hw _ (List.mem_of_getElem? (i := 9) rfl))) (g := (mkF m 45 #[.val (.long q0), .second, .val (.long q1), .second, .unset, .unset, .unset, .unset] [(.long (q0 - q1)), (.long q0), (.long q0)])) rfl (hb hby d2_45) ?_
      show Steps p.tables e below (s₁.setTop (mkF m 48 #[.val (.long q0), .second, .val (.long q1), .second, .unset, .unset, .unset, .unset] [(.long (-1 : Int64)), (.long (q0 - q1)), (.long q0), (.long q0)])) _
      refine XS.lxor X0.here hx rfl (hb hby d2_48) rfl ?_
      show Steps p.tables e below (s₁.setTop (mkF m 49 #[.val (.long q0), .second, .val (.long q1), .second, .unset, .unset, .unset, .unset] [(.long ((q0 - q1) ^^^ (-1 : Int64))), (.long q0), (.long q0)])) _
      refine XS.land X0.here hx rfl (hb hby d2_49) rfl ?_
      show Steps p.tables e below (s₁.setTop (mkF m 50 #[.val (.long q0), .second, .val (.long q1), .second, .unset, .unset, .unset, .unset] [(.long (q0 &&& ((q0 - q1) ^^^ (-1 : Int64)))), (.long q0)])) _
      refine XS.bipush X0.here hx rfl (hb hby d2_50) ?_
      show Steps p.tables e below (s₁.setTop (mkF m 52 #[.val (.long q0), .second, .val (.long q1), .second, .unset, .unset, .unset, .unset] [(.int (63 : Int32)), (.long (q0 &&& ((q0 - q1) ^^^ (-1 : Int64)))), (.long q0)])) _
      refine XS.lshr X0.here hx rfl (hb hby d2_52) rfl ?_
      show Steps p.tables e below (s₁.setTop (mkF m 53 #[.val (.long q0), .second, .val (.long q1), .second, .unset, .unset, .unset, .unset] [(.long ((q0 &&& ((q0 - q1) ^^^ (-1 : Int64))) >>> ((63 : Int32) &&& 0x3f).toInt64)), (.long q0)])) _
      refine XS.lloadN X0.here hx rfl (hb hby d2_53) rfl ?_
      show Steps p.tables e below (s₁.setTop (mkF m 54 #[.val (.long q0), .second, .val (.long q1), .second, .unset, .unset, .unset, .unset] [(.long q1), (.long ((q0 &&& ((q0 - q1) ^^^ (-1 : Int64))) >>> ((63 : Int32) &&& 0x3f).toInt64)), (.long q0)])) _
      refine XS.land X0.here hx rfl (hb hby d2_54) rfl ?_
      show Steps p.tables e below (s₁.setTop (mkF m 55 #[.val (.long q0), .second, .val (.long q1), .second, .unset, .unset, .unset, .unset] [(.long (((q0 &&& ((q0 - q1) ^^^ (-1 : Int64))) >>> ((63 : Int32) &&& 0x3f).toInt64) &&& q1)), (.long q0)])) _
      refine XS.lsub X0.here hx rfl (hb hby d2_55) rfl ?_
      show Steps p.tables e below (s₁.setTop (mkF m 56 #[.val (.long q0), .second, .val (.long q1), .second, .unset, .unset, .unset, .unset] [(.long (q0 - (((q0 &&& ((q0 - q1) ^^^ (-1 : Int64))) >>> ((63 : Int32) &&& 0x3f).toInt64) &&& q1)))])) _
      exact retOut X0 hx (t := .long) (i := .lreturn) Bd.returns rfl (Or.inr (Or.inl ⟨rfl, rfl, _, rfl⟩)) (hb hby d2_56) hr
    · show Q2 q0 q1 h0 n0 _ s₁.heap _
      rw [e0]
      exact ⟨(by rw [remV, if_pos hc3]), N0, rfl⟩
  · obtain ⟨fs, hr, hrun, hended, hW, hsame⟩ := X0.leave (v := some (.long ((q0 - (((((q0.toUInt64 >>> ((1 : Int32) &&& 0x3f).toInt64.toUInt64).toInt64) / q1) <<< ((1 : Int32) &&& 0x3f).toInt64) * q1)) - (((((q0 - (((((q0.toUInt64 >>> ((1 : Int32) &&& 0x3f).toInt64.toUInt64).toInt64) / q1) <<< ((1 : Int32) &&& 0x3f).toInt64) * q1)) - q1) ^^^ (-1 : Int64)) >>> ((63 : Int32) &&& 0x3f).toInt64) &&& q1)))) (fun h => by rw [Bd.returns] at h; cases h)
    refine ⟨_, _, pre1 _ ?_, hrun, hended, _, _, rfl, ?_, ⟨_, rfl⟩, hW, hsame.mono (by decide) (by decide)⟩
    · show Steps p.tables e below (s₁.setTop (mkF m 3 #[.val (.long q0), .second, .val (.long q1), .second, .unset, .unset, .unset, .unset] [(.int (lcmpW q1 (0 : Int64)))])) _
      refine XS.ifNo X0.here hx rfl (hb hby d2_3) rfl ((if0 _ _).trans (flt (show ¬ ((lcmpW q1 (0 : Int64)) < (0 : Int32)) from (fun q => hc3 ((lw_lt _ _).mp q)))).1) ?_
      show Steps p.tables e below (s₁.setTop (mkF m 6 #[.val (.long q0), .second, .val (.long q1), .second, .unset, .unset, .unset, .unset] [])) _
      refine XS.lloadN X0.here hx rfl (hb hby d2_6) rfl ?_
      show Steps p.tables e below (s₁.setTop (mkF m 7 #[.val (.long q0), .second, .val (.long q1), .second, .unset, .unset, .unset, .unset] [(.long q0)])) _
      refine XS.iconst X0.here hx rfl (hb hby d2_7) ?_
      show Steps p.tables e below (s₁.setTop (mkF m 8 #[.val (.long q0), .second, .val (.long q1), .second, .unset, .unset, .unset, .unset] [(.int (1 : Int32)), (.long q0)])) _
      refine XS.lushr X0.here hx rfl (hb hby d2_8) rfl ?_
      show Steps p.tables e below (s₁.setTop (mkF m 9 #[.val (.long q0), .second, .val (.long q1), .second, .unset, .unset, .unset, .unset] [(.long ((q0.toUInt64 >>> ((1 : Int32) &&& 0x3f).toInt64.toUInt64).toInt64))])) _
      refine XS.lloadN X0.here hx rfl (hb hby d2_9) rfl ?_
      show Steps p.tables e below (s₁.setTop (mkF m 10 #[.val (.long q0), .second, .val (.long q1), .second, .unset, .unset, .unset, .unset] [(.long q1), (.long ((q0.toUInt64 >>> ((1 : Int32) &&& 0x3f).toInt64.toUInt64).toInt64))])) _
      refine XS.ldiv X0.here hx rfl (hb hby d2_10) rfl hnz ?_
      show Steps p.tables e below (s₁.setTop (mkF m 11 #[.val (.long q0), .second, .val (.long q1), .second, .unset, .unset, .unset, .unset] [(.long (((q0.toUInt64 >>> ((1 : Int32) &&& 0x3f).toInt64.toUInt64).toInt64) / q1))])) _
      refine XS.iconst X0.here hx rfl (hb hby d2_11) ?_
      show Steps p.tables e below (s₁.setTop (mkF m 12 #[.val (.long q0), .second, .val (.long q1), .second, .unset, .unset, .unset, .unset] [(.int (1 : Int32)), (.long (((q0.toUInt64 >>> ((1 : Int32) &&& 0x3f).toInt64.toUInt64).toInt64) / q1))])) _
      refine XS.lshl X0.here hx rfl (hb hby d2_12) rfl ?_
      show Steps p.tables e below (s₁.setTop (mkF m 13 #[.val (.long q0), .second, .val (.long q1), .second, .unset, .unset, .unset, .unset] [(.long ((((q0.toUInt64 >>> ((1 : Int32) &&& 0x3f).toInt64.toUInt64).toInt64) / q1) <<< ((1 : Int32) &&& 0x3f).toInt64))])) _
      refine XS.lstore X0.here hx rfl (hb hby d2_13) rfl (l' := #[.val (.long q0), .second, .val (.long q1), .second, .val (.long ((((q0.toUInt64 >>> ((1 : Int32) &&& 0x3f).toInt64.toUInt64).toInt64) / q1) <<< ((1 : Int32) &&& 0x3f).toInt64)), .second, .unset, .unset]) rfl ?_
      show Steps p.tables e below (s₁.setTop (mkF m 15 #[.val (.long q0), .second, .val (.long q1), .second, .val (.long ((((q0.toUInt64 >>> ((1 : Int32) &&& 0x3f).toInt64.toUInt64).toInt64) / q1) <<< ((1 : Int32) &&& 0x3f).toInt64)), .second, .unset, .unset] [])) _
      refine XS.lloadN X0.here hx rfl (hb hby d2_15) rfl ?_
      show Steps p.tables e below (s₁.setTop (mkF m 16 #[.val (.long q0), .second, .val (.long q1), .second, .val (.long ((((q0.toUInt64 >>> ((1 : Int32) &&& 0x3f).toInt64.toUInt64).toInt64) / q1) <<< ((1 : Int32) &&& 0x3f).toInt64)), .second, .unset, .unset] [(.long q0)])) _
      refine XS.lload X0.here hx rfl (hb hby d2_16) rfl ?_
      show Steps p.tables e below (s₁.setTop (mkF m 18 #[.val (.long q0), .second, .val (.long q1), .second, .val (.long ((((q0.toUInt64 >>> ((1 : Int32) &&& 0x3f).toInt64.toUInt64).toInt64) / q1) <<< ((1 : Int32) &&& 0x3f).toInt64)), .second, .unset, .unset] [(.long ((((q0.toUInt64 >>> ((1 : Int32) &&& 0x3f).toInt64.toUInt64).toInt64) / q1) <<< ((1 : Int32) &&& 0x3f).toInt64)), (.long q0)])) _
      refine XS.lloadN X0.here hx rfl (hb hby d2_18) rfl ?_
      show Steps p.tables e below (s₁.setTop (mkF m 19 #[.val (.long q0), .second, .val (.long q1), .second, .val (.long ((((q0.toUInt64 >>> ((1 : Int32) &&& 0x3f).toInt64.toUInt64).toInt64) / q1) <<< ((1 : Int32) &&& 0x3f).toInt64)), .second, .unset, .unset] [(.long q1), (.long ((((q0.toUInt64 >>> ((1 : Int32) &&& 0x3f).toInt64.toUInt64).toInt64) / q1) <<< ((1 : Int32) &&& 0x3f).toInt64)), (.long q0)])) _
      refine XS.lmul X0.here hx rfl (hb hby d2_19) rfl ?_
      show Steps p.tables e below (s₁.setTop (mkF m 20 #[.val (.long q0), .second, .val (.long q1), .second, .val (.long ((((q0.toUInt64 >>> ((1 : Int32) &&& 0x3f).toInt64.toUInt64).toInt64) / q1) <<< ((1 : Int32) &&& 0x3f).toInt64)), .second, .unset, .unset] [(.long (((((q0.toUInt64 >>> ((1 : Int32) &&& 0x3f).toInt64.toUInt64).toInt64) / q1) <<< ((1 : Int32) &&& 0x3f).toInt64) * q1)), (.long q0)])) _
      refine XS.lsub X0.here hx rfl (hb hby d2_20) rfl ?_
      show Steps p.tables e below (s₁.setTop (mkF m 21 #[.val (.long q0), .second, .val (.long q1), .second, .val (.long ((((q0.toUInt64 >>> ((1 : Int32) &&& 0x3f).toInt64.toUInt64).toInt64) / q1) <<< ((1 : Int32) &&& 0x3f).toInt64)), .second, .unset, .unset] [(.long (q0 - (((((q0.toUInt64 >>> ((1 : Int32) &&& 0x3f).toInt64.toUInt64).toInt64) / q1) <<< ((1 : Int32) &&& 0x3f).toInt64) * q1)))])) _
      refine XS.lstore X0.here hx rfl (hb hby d2_21) rfl (l' := #[.val (.long q0), .second, .val (.long q1), .second, .val (.long ((((q0.toUInt64 >>> ((1 : Int32) &&& 0x3f).toInt64.toUInt64).toInt64) / q1) <<< ((1 : Int32) &&& 0x3f).toInt64)), .second, .val (.long (q0 - (((((q0.toUInt64 >>> ((1 : Int32) &&& 0x3f).toInt64.toUInt64).toInt64) / q1) <<< ((1 : Int32) &&& 0x3f).toInt64) * q1))), .second]) rfl ?_
      show Steps p.tables e below (s₁.setTop (mkF m 23 #[.val (.long q0), .second, .val (.long q1), .second, .val (.long ((((q0.toUInt64 >>> ((1 : Int32) &&& 0x3f).toInt64.toUInt64).toInt64) / q1) <<< ((1 : Int32) &&& 0x3f).toInt64)), .second, .val (.long (q0 - (((((q0.toUInt64 >>> ((1 : Int32) &&& 0x3f).toInt64.toUInt64).toInt64) / q1) <<< ((1 : Int32) &&& 0x3f).toInt64) * q1))), .second] [])) _
      refine XS.lload X0.here hx rfl (hb hby d2_23) rfl ?_
      show Steps p.tables e below (s₁.setTop (mkF m 25 #[.val (.long q0), .second, .val (.long q1), .second, .val (.long ((((q0.toUInt64 >>> ((1 : Int32) &&& 0x3f).toInt64.toUInt64).toInt64) / q1) <<< ((1 : Int32) &&& 0x3f).toInt64)), .second, .val (.long (q0 - (((((q0.toUInt64 >>> ((1 : Int32) &&& 0x3f).toInt64.toUInt64).toInt64) / q1) <<< ((1 : Int32) &&& 0x3f).toInt64) * q1))), .second] [(.long (q0 - (((((q0.toUInt64 >>> ((1 : Int32) &&& 0x3f).toInt64.toUInt64).toInt64) / q1) <<< ((1 : Int32) &&& 0x3f).toInt64) * q1)))])) _
      refine XS.lload X0.here hx rfl (hb hby d2_25) rfl ?_
      show Steps p.tables e below (s₁.setTop (mkF m 27 #[.val (.long q0), .second, .val (.long q1), .second, .val (.long ((((q0.toUInt64 >>> ((1 : Int32) &&& 0x3f).toInt64.toUInt64).toInt64) / q1) <<< ((1 : Int32) &&& 0x3f).toInt64)), .second, .val (.long (q0 - (((((q0.toUInt64 >>> ((1 : Int32) &&& 0x3f).toInt64.toUInt64).toInt64) / q1) <<< ((1 : Int32) &&& 0x3f).toInt64) * q1))), .second] [(.long (q0 - (((((q0.toUInt64 >>> ((1 : Int32) &&& 0x3f).toInt64.toUInt64).toInt64) / q1) <<< ((1 : Int32) &&& 0x3f).toInt64) * q1))), (.long (q0 - (((((q0.toUInt64 >>> ((1 : Int32) &&& 0x3f).toInt64.toUInt64).toInt64) / q1) <<< ((1 : Int32) &&& 0x3f).toInt64) * q1)))])) _
      refine XS.lloadN X0.here hx rfl (hb hby d2_27) rfl ?_
      show Steps p.tables e below (s₁.setTop (mkF m 28 #[.val (.long q0), .second, .val (.long q1), .second, .val (.long ((((q0.toUInt64 >>> ((1 : Int32) &&& 0x3f).toInt64.toUInt64).toInt64) / q1) <<< ((1 : Int32) &&& 0x3f).toInt64)), .second, .val (.long (q0 - (((((q0.toUInt64 >>> ((1 : Int32) &&& 0x3f).toInt64.toUInt64).toInt64) / q1) <<< ((1 : Int32) &&& 0x3f).toInt64) * q1))), .second] [(.long q1), (.long (q0 - (((((q0.toUInt64 >>> ((1 : Int32) &&& 0x3f).toInt64.toUInt64).toInt64) / q1) <<< ((1 : Int32) &&& 0x3f).toInt64) * q1))), (.long (q0 - (((((q0.toUInt64 >>> ((1 : Int32) &&& 0x3f).toInt64.toUInt64).toInt64) / q1) <<< ((1 : Int32) &&& 0x3f).toInt64) * q1)))])) _
      refine XS.lsub X0.here hx rfl (hb hby d2_28) rfl ?_
      show Steps p.tables e below (s₁.setTop (mkF m 29 #[.val (.long q0), .second, .val (.long q1), .second, .val (.long ((((q0.toUInt64 >>> ((1 : Int32) &&& 0x3f).toInt64.toUInt64).toInt64) / q1) <<< ((1 : Int32) &&& 0x3f).toInt64)), .second, .val (.long (q0 - (((((q0.toUInt64 >>> ((1 : Int32) &&& 0x3f).toInt64.toUInt64).toInt64) / q1) <<< ((1 : Int32) &&& 0x3f).toInt64) * q1))), .second] [(.long ((q0 - (((((q0.toUInt64 >>> ((1 : Int32) &&& 0x3f).toInt64.toUInt64).toInt64) / q1) <<< ((1 : Int32) &&& 0x3f).toInt64) * q1)) - q1)), (.long (q0 - (((((q0.toUInt64 >>> ((1 : Int32) &&& 0x3f).toInt64.toUInt64).toInt64) / q1) <<< ((1 : Int32) &&& 0x3f).toInt64) * q1)))])) _
      refine X0.ldc2J hx hown (mvT hZ (hw _ (List.mem_of_getElem? (i := 9) rfl))) (g := (mkF m 29 #[.val (.long q0), .second, .val (.long q1), .second, .val (.long ((((q0.toUInt64 >>> ((1 : Int32) &&& 0x3f).toInt64.toUInt64).toInt64) / q1) <<< ((1 : Int32) &&& 0x3f).toInt64)), .second, .val (.long (q0 - (((((q0.toUInt64 >>> ((1 : Int32) &&& 0x3f).toInt64.toUInt64).toInt64) / q1) <<< ((1 : Int32) &&& 0x3f).toInt64) * q1))), .second] [(.long ((q0 - (((((q0.toUInt64 >>> ((1 : Int32) &&& 0x3f).toInt64.toUInt64).toInt64) / q1) <<< ((1 : Int32) &&& 0x3f).toInt64) * q1)) - q1)), (.long (q0 - (((((q0.toUInt64 >>> ((1 : Int32) &&& 0x3f).toInt64.toUInt64).toInt64) / q1) <<< ((1 : Int32) &&& 0x3f).toInt64) * q1)))])) rfl (hb hby d2_29) ?_
      show Steps p.tables e below (s₁.setTop (mkF m 32 #[.val (.long q0), .second, .val (.long q1), .second, .val (.long ((((q0.toUInt64 >>> ((1 : Int32) &&& 0x3f).toInt64.toUInt64).toInt64) / q1) <<< ((1 : Int32) &&& 0x3f).toInt64)), .second, .val (.long (q0 - (((((q0.toUInt64 >>> ((1 : Int32) &&& 0x3f).toInt64.toUInt64).toInt64) / q1) <<< ((1 : Int32) &&& 0x3f).toInt64) * q1))), .second] [(.long (-1 : Int64)), (.long ((q0 - (((((q0.toUInt64 >>> ((1 : Int32) &&& 0x3f).toInt64.toUInt64).toInt64) / q1) <<< ((1 : Int32) &&& 0x3f).toInt64) * q1)) - q1)), (.long (q0 - (((((q0.toUInt64 >>> ((1 : Int32) &&& 0x3f).toInt64.toUInt64).toInt64) / q1) <<< ((1 : Int32) &&& 0x3f).toInt64) * q1)))])) _
      refine XS.lxor X0.here hx rfl (hb hby d2_32) rfl ?_
      show Steps p.tables e below (s₁.setTop (mkF m 33 #[.val (.long q0), .second, .val (.long q1), .second, .val (.long ((((q0.toUInt64 >>> ((1 : Int32) &&& 0x3f).toInt64.toUInt64).toInt64) / q1) <<< ((1 : Int32) &&& 0x3f).toInt64)), .second, .val (.long (q0 - (((((q0.toUInt64 >>> ((1 : Int32) &&& 0x3f).toInt64.toUInt64).toInt64) / q1) <<< ((1 : Int32) &&& 0x3f).toInt64) * q1))), .second] [(.long (((q0 - (((((q0.toUInt64 >>> ((1 : Int32) &&& 0x3f).toInt64.toUInt64).toInt64) / q1) <<< ((1 : Int32) &&& 0x3f).toInt64) * q1)) - q1) ^^^ (-1 : Int64))), (.long (q0 - (((((q0.toUInt64 >>> ((1 : Int32) &&& 0x3f).toInt64.toUInt64).toInt64) / q1) <<< ((1 : Int32) &&& 0x3f).toInt64) * q1)))])) _
      refine XS.bipush X0.here hx rfl (hb hby d2_33) ?_
      show Steps p.tables e below (s₁.setTop (mkF m 35 #[.val (.long q0), .second, .val (.long q1), .second, .val (.long ((((q0.toUInt64 >>> ((1 : Int32) &&& 0x3f).toInt64.toUInt64).toInt64) / q1) <<< ((1 : Int32) &&& 0x3f).toInt64)), .second, .val (.long (q0 - (((((q0.toUInt64 >>> ((1 : Int32) &&& 0x3f).toInt64.toUInt64).toInt64) / q1) <<< ((1 : Int32) &&& 0x3f).toInt64) * q1))), .second] [(.int (63 : Int32)), (.long (((q0 - (((((q0.toUInt64 >>> ((1 : Int32) &&& 0x3f).toInt64.toUInt64).toInt64) / q1) <<< ((1 : Int32) &&& 0x3f).toInt64) * q1)) - q1) ^^^ (-1 : Int64))), (.long (q0 - (((((q0.toUInt64 >>> ((1 : Int32) &&& 0x3f).toInt64.toUInt64).toInt64) / q1) <<< ((1 : Int32) &&& 0x3f).toInt64) * q1)))])) _
      refine XS.lshr X0.here hx rfl (hb hby d2_35) rfl ?_
      show Steps p.tables e below (s₁.setTop (mkF m 36 #[.val (.long q0), .second, .val (.long q1), .second, .val (.long ((((q0.toUInt64 >>> ((1 : Int32) &&& 0x3f).toInt64.toUInt64).toInt64) / q1) <<< ((1 : Int32) &&& 0x3f).toInt64)), .second, .val (.long (q0 - (((((q0.toUInt64 >>> ((1 : Int32) &&& 0x3f).toInt64.toUInt64).toInt64) / q1) <<< ((1 : Int32) &&& 0x3f).toInt64) * q1))), .second] [(.long ((((q0 - (((((q0.toUInt64 >>> ((1 : Int32) &&& 0x3f).toInt64.toUInt64).toInt64) / q1) <<< ((1 : Int32) &&& 0x3f).toInt64) * q1)) - q1) ^^^ (-1 : Int64)) >>> ((63 : Int32) &&& 0x3f).toInt64)), (.long (q0 - (((((q0.toUInt64 >>> ((1 : Int32) &&& 0x3f).toInt64.toUInt64).toInt64) / q1) <<< ((1 : Int32) &&& 0x3f).toInt64) * q1)))])) _
      refine XS.lloadN X0.here hx rfl (hb hby d2_36) rfl ?_
      show Steps p.tables e below (s₁.setTop (mkF m 37 #[.val (.long q0), .second, .val (.long q1), .second, .val (.long ((((q0.toUInt64 >>> ((1 : Int32) &&& 0x3f).toInt64.toUInt64).toInt64) / q1) <<< ((1 : Int32) &&& 0x3f).toInt64)), .second, .val (.long (q0 - (((((q0.toUInt64 >>> ((1 : Int32) &&& 0x3f).toInt64.toUInt64).toInt64) / q1) <<< ((1 : Int32) &&& 0x3f).toInt64) * q1))), .second] [(.long q1), (.long ((((q0 - (((((q0.toUInt64 >>> ((1 : Int32) &&& 0x3f).toInt64.toUInt64).toInt64) / q1) <<< ((1 : Int32) &&& 0x3f).toInt64) * q1)) - q1) ^^^ (-1 : Int64)) >>> ((63 : Int32) &&& 0x3f).toInt64)), (.long (q0 - (((((q0.toUInt64 >>> ((1 : Int32) &&& 0x3f).toInt64.toUInt64).toInt64) / q1) <<< ((1 : Int32) &&& 0x3f).toInt64) * q1)))])) _
      refine XS.land X0.here hx rfl (hb hby d2_37) rfl ?_
      show Steps p.tables e below (s₁.setTop (mkF m 38 #[.val (.long q0), .second, .val (.long q1), .second, .val (.long ((((q0.toUInt64 >>> ((1 : Int32) &&& 0x3f).toInt64.toUInt64).toInt64) / q1) <<< ((1 : Int32) &&& 0x3f).toInt64)), .second, .val (.long (q0 - (((((q0.toUInt64 >>> ((1 : Int32) &&& 0x3f).toInt64.toUInt64).toInt64) / q1) <<< ((1 : Int32) &&& 0x3f).toInt64) * q1))), .second] [(.long (((((q0 - (((((q0.toUInt64 >>> ((1 : Int32) &&& 0x3f).toInt64.toUInt64).toInt64) / q1) <<< ((1 : Int32) &&& 0x3f).toInt64) * q1)) - q1) ^^^ (-1 : Int64)) >>> ((63 : Int32) &&& 0x3f).toInt64) &&& q1)), (.long (q0 - (((((q0.toUInt64 >>> ((1 : Int32) &&& 0x3f).toInt64.toUInt64).toInt64) / q1) <<< ((1 : Int32) &&& 0x3f).toInt64) * q1)))])) _
      refine XS.lsub X0.here hx rfl (hb hby d2_38) rfl ?_
      show Steps p.tables e below (s₁.setTop (mkF m 39 #[.val (.long q0), .second, .val (.long q1), .second, .val (.long ((((q0.toUInt64 >>> ((1 : Int32) &&& 0x3f).toInt64.toUInt64).toInt64) / q1) <<< ((1 : Int32) &&& 0x3f).toInt64)), .second, .val (.long (q0 - (((((q0.toUInt64 >>> ((1 : Int32) &&& 0x3f).toInt64.toUInt64).toInt64) / q1) <<< ((1 : Int32) &&& 0x3f).toInt64) * q1))), .second] [(.long ((q0 - (((((q0.toUInt64 >>> ((1 : Int32) &&& 0x3f).toInt64.toUInt64).toInt64) / q1) <<< ((1 : Int32) &&& 0x3f).toInt64) * q1)) - (((((q0 - (((((q0.toUInt64 >>> ((1 : Int32) &&& 0x3f).toInt64.toUInt64).toInt64) / q1) <<< ((1 : Int32) &&& 0x3f).toInt64) * q1)) - q1) ^^^ (-1 : Int64)) >>> ((63 : Int32) &&& 0x3f).toInt64) &&& q1)))])) _
      exact retOut X0 hx (t := .long) (i := .lreturn) Bd.returns rfl (Or.inr (Or.inl ⟨rfl, rfl, _, rfl⟩)) (hb hby d2_39) hr
    · show Q2 q0 q1 h0 n0 _ s₁.heap _
      rw [e0]
      exact ⟨(by rw [remV, if_neg hc3]), N0, rfl⟩
theorem d1_0 : decode prog_23_method_2_code 0 = .ok (.ldc2_w 46, 3) := by decide +kernel
theorem d1_3 : decode prog_23_method_2_code 3 = .ok (.lload_n 0, 1) := by decide +kernel
theorem d1_4 : decode prog_23_method_2_code 4 = .ok (.invokestatic 25, 3) := by decide +kernel
theorem d1_7 : decode prog_23_method_2_code 7 = .ok (.lconst 1, 1) := by decide +kernel
theorem d1_8 : decode prog_23_method_2_code 8 = .ok (.ladd, 1) := by decide +kernel
theorem d1_9 : decode prog_23_method_2_code 9 = .ok (.lstore_n 2, 1) := by decide +kernel
theorem d1_10 : decode prog_23_method_2_code 10 = .ok (.lload_n 2, 1) := by decide +kernel
theorem d1_11 : decode prog_23_method_2_code 11 = .ok (.lload_n 0, 1) := by decide +kernel
theorem d1_12 : decode prog_23_method_2_code 12 = .ok (.lcmp, 1) := by decide +kernel
theorem d1_13 : decode prog_23_method_2_code 13 = .ok (.ifCond .ne 7, 3) := by decide +kernel
theorem d1_16 : decode prog_23_method_2_code 16 = .ok (.lconst 0, 1) := by decide +kernel
theorem d1_17 : decode prog_23_method_2_code 17 = .ok (.goto 4, 3) := by decide +kernel
theorem d1_20 : decode prog_23_method_2_code 20 = .ok (.lload_n 2, 1) := by decide +kernel
theorem d1_21 : decode prog_23_method_2_code 21 = .ok (.lreturn, 1) := by decide +kernel
theorem pn_1 : plainName "com/example/bitsieve/bitsieve/filter/Positions" = true := by first | (simp [plainName, overriddenIn]; done) | decide +kernel
theorem pd_0 : parseMethodDescriptor "(JJ)J" = some ⟨[.long, .long], some .long⟩ := by decide +kernel
theorem ef_1 (m : MethodId) (q0 : Int64) : entryFrame m #[(.long q0)] 4 = mkF m 0 #[.val (.long q0), .second, .unset, .unset] [] := by first | (simp [entryFrame, mkF, argsToLocals, Value.category]; done) | rfl
def Q1 (q0 : Int64) (h0 : Heap) (n0 : Nat) (v : Option Value) (h : Heap) (L : List Loc) : Prop := v = some (.long (wrapV q0)) ∧ Fr n0 L ∧ h = h0
set_option maxRecDepth 65536 in
set_option maxHeartbeats 40000000 in
theorem rm1 (l : Launch) (Z : State) (a0 : Array Value) (hw : ∀ d ∈ tables_1, d.before a0 Z = true) (ws : List Jvm.Cond) (q0 : Int64) (h0 : Heap) (n0 : Nat) (Z0 : n0 ≤ h0.size) (hnz : q0 ≠ 0) :
    MetFree l (⟨"com/example/bitsieve/bitsieve/filter/Positions", "wrap", "(J)J"⟩ : MethodName) (head1 (Jvm.Cond.code (⟨"com/example/bitsieve/bitsieve/filter/Positions", "wrap", "(J)J"⟩ : MethodName) prog_23_method_2_code 4 (some .long) :: ws) ({ frames := 1, cells := 0, slots := 0, locals := 19 } : Room)) (fun a U => a = #[(.long q0)] ∧ Z.Warmed39 U.vm ∧ U.heap = h0) (fun _ _ _ _ _ => True) (fun _ U o U' => ∃ v L, o = .returned v ∧ Q1 q0 h0 n0 v U'.heap L ∧ FrameEnd U o U' L ({ frames := 1, cells := 0, slots := 0, locals := 19 } : Room).cells ({ frames := 1, cells := 0, slots := 0, locals := 19 } : Room).slots) := by
  refine MetFree.of_bodySF (plainFor_of_name pn_1) hisR ?_
  intro p e s m args below meth c s₁ Bd hml0 hP hK
  obtain ⟨rfl, hZ, hh⟩ := hP
  have hx := Bd.exec
  have hby := Bd.bytes
  have hml : c.maxLocals = 4 := hml0
  have hown : s.vm.findClass "com/example/bitsieve/bitsieve/filter/Positions" = some m.cls := findClass_of_methodNamed Bd.named
  have hnm := (name_of_methodNamed Bd.named Bd.method).1
  have X0 : Stand p l e ({ frames := 1, cells := 0, slots := 0, locals := 19 } : Room) s m #[(.long q0)] below meth c s₁ [] 0 0 := Stand.of_body Bd
  have e0 : s₁.heap = h0 := by rw [← hh, Bd.state]; rfl
  have N0 := Fr.nil n0
  have pre0 : ∀ t, Steps p.tables e below (s₁.setTop (mkF m 0 #[.val (.long q0), .second, .unset, .unset] [])) t → Steps p.tables e below (s₁.setTop (entryFrame m #[(.long q0)] 4)) t := fun t k => castTop (ef_1 m q0) k
  obtain ⟨_, _, ⟨T1, L1, k1, n1⟩, -, X1, ⟨Lc1, hQ1, l1, y1, z1⟩, st1⟩ := Jvm.LawKit.callS X0 hx (y := (⟨"java/lang/Long", "remainderUnsigned", "(JJ)J"⟩ : MethodName)) hown (mvT hZ (hw _ (List.mem_of_getElem? (i := 5) rfl))) (mvT hZ (hw _ (List.mem_of_getElem? (i := 6) rfl))) (mvT hZ (hw _ (List.mem_of_getElem? (i := 7) rfl))) (mvT hZ (hw _ (List.mem_of_getElem? (i := 8) rfl))) (by decide) (backOf (W := 0) (rm2 l Z a0 hw [] (-1 : Int64) q0 h0 n0 Z0 hnz) hZ (hw _ (List.mem_of_getElem? (i := 8) rfl)) (hw _ (List.mem_of_getElem? (i := 7) rfl)) (by decide) (by decide)) (g := (mkF m 4 #[.val (.long q0), .second, .unset, .unset] [(.long q0), (.long (-1 : Int64))])) rfl (by rw [hml]; rfl) (argsL := [(.long (-1 : Int64)), (.long q0)]) (rest := []) (lenOf pd_0 rfl) rfl (by show 2 * 0 + _ ≤ _; exact Nat.le_of_eq rfl) (hb hby d1_4) (fun _ _ => ⟨rfl, e0, (by decide : 0 + 0 ≤ _), (by decide : 0 + 0 ≤ _)⟩)
  dsimp only [Pt.U, Pt.locs, Pt.cells, Pt.slots] at X1 l1 y1 z1 st1 hQ1
  subst l1 y1 z1
  obtain ⟨rfl, N1q, e1⟩ := hQ1
  have N1 := Fr.app N0 N1q
  have pre2 : ∀ t, Steps p.tables e below (T1.setTop (mkF m 13 #[.val (.long q0), .second, .val (.long ((remV (-1 : Int64) q0) + (1 : Int64))), .second] [(.int (lcmpW ((remV (-1 : Int64) q0) + (1 : Int64)) q0))])) t → Steps p.tables e below (s₁.setTop (entryFrame m #[(.long q0)] 4)) t := fun t kt => pre0 t (by
      show Steps p.tables e below (s₁.setTop (mkF m 0 #[.val (.long q0), .second, .unset, .unset] [])) _
      refine X0.ldc2J hx hown (mvT hZ (hw _ (List.mem_of_getElem? (i := 4) rfl))) (g := (mkF m 0 #[.val (.long q0), .second, .unset, .unset] [])) rfl (hb hby d1_0) ?_
      show Steps p.tables e below (s₁.setTop (mkF m 3 #[.val (.long q0), .second, .unset, .unset] [(.long (-1 : Int64))])) _
      refine XS.lloadN X0.here hx rfl (hb hby d1_3) rfl ?_
      show Steps p.tables e below (s₁.setTop (mkF m 4 #[.val (.long q0), .second, .unset, .unset] [(.long q0), (.long (-1 : Int64))])) _
      refine st1 _ ?_
      show Steps p.tables e below (T1.setTop (mkF m 7 #[.val (.long q0), .second, .unset, .unset] [(.long (remV (-1 : Int64) q0))])) _
      refine XS.lconst X1.here hx rfl (hb hby d1_7) ?_
      show Steps p.tables e below (T1.setTop (mkF m 8 #[.val (.long q0), .second, .unset, .unset] [(.long (1 : Int64)), (.long (remV (-1 : Int64) q0))])) _
      refine XS.ladd X1.here hx rfl (hb hby d1_8) rfl ?_
      show Steps p.tables e below (T1.setTop (mkF m 9 #[.val (.long q0), .second, .unset, .unset] [(.long ((remV (-1 : Int64) q0) + (1 : Int64)))])) _
      refine XS.lstoreN X1.here hx rfl (hb hby d1_9) rfl (l' := #[.val (.long q0), .second, .val (.long ((remV (-1 : Int64) q0) + (1 : Int64))), .second]) rfl ?_
      show Steps p.tables e below (T1.setTop (mkF m 10 #[.val (.long q0), .second, .val (.long ((remV (-1 : Int64) q0) + (1 : Int64))), .second] [])) _
      refine XS.lloadN X1.here hx rfl (hb hby d1_10) rfl ?_
      show Steps p.tables e below (T1.setTop (mkF m 11 #[.val (.long q0), .second, .val (.long ((remV (-1 : Int64) q0) + (1 : Int64))), .second] [(.long ((remV (-1 : Int64) q0) + (1 : Int64)))])) _
      refine XS.lloadN X1.here hx rfl (hb hby d1_11) rfl ?_
      show Steps p.tables e below (T1.setTop (mkF m 12 #[.val (.long q0), .second, .val (.long ((remV (-1 : Int64) q0) + (1 : Int64))), .second] [(.long q0), (.long ((remV (-1 : Int64) q0) + (1 : Int64)))])) _
      refine XS.lcmp X1.here hx rfl (hb hby d1_12) rfl ?_
      exact kt)
  by_cases hc13 : ((remV (-1 : Int64) q0) + (1 : Int64)) = q0
  · obtain ⟨fs, hr, hrun, hended, hW, hsame⟩ := X1.leave (v := some (.long (0 : Int64))) (fun h => by rw [Bd.returns] at h; cases h)
    refine ⟨_, _, pre2 _ ?_, hrun, hended, _, _, rfl, ?_, ⟨_, rfl⟩, hW, hsame.mono (by decide) (by decide)⟩
    · show Steps p.tables e below (T1.setTop (mkF m 13 #[.val (.long q0), .second, .val (.long ((remV (-1 : Int64) q0) + (1 : Int64))), .second] [(.int (lcmpW ((remV (-1 : Int64) q0) + (1 : Int64)) q0))])) _
      refine XS.ifNo X1.here hx rfl (hb hby d1_13) rfl ((if0 _ _).trans (teq (show (lcmpW ((remV (-1 : Int64) q0) + (1 : Int64)) q0) = (0 : Int32) from ((lw_eq _ _).mpr hc13))).2) ?_
      show Steps p.tables e below (T1.setTop (mkF m 16 #[.val (.long q0), .second, .val (.long ((remV (-1 : Int64) q0) + (1 : Int64))), .second] [])) _
      refine XS.lconst X1.here hx rfl (hb hby d1_16) ?_
      show Steps p.tables e below (T1.setTop (mkF m 17 #[.val (.long q0), .second, .val (.long ((remV (-1 : Int64) q0) + (1 : Int64))), .second] [(.long (0 : Int64))])) _
      refine XS.goto X1.here hx rfl (pc0 := 17) (pc' := 21) rfl (hb hby d1_17) (by decide) (by decide) ?_
      show Steps p.tables e below (T1.setTop (mkF m 21 #[.val (.long q0), .second, .val (.long ((remV (-1 : Int64) q0) + (1 : Int64))), .second] [(.long (0 : Int64))])) _
      exact retOut X1 hx (t := .long) (i := .lreturn) Bd.returns rfl (Or.inr (Or.inl ⟨rfl, rfl, _, rfl⟩)) (hb hby d1_21) hr
    · show Q1 q0 h0 n0 _ T1.heap _
      rw [e1]
      exact ⟨(by rw [wrapV, if_pos hc13]), N1, rfl⟩
  · obtain ⟨fs, hr, hrun, hended, hW, hsame⟩ := X1.leave (v := some (.long ((remV (-1 : Int64) q0) + (1 : Int64)))) (fun h => by rw [Bd.returns] at h; cases h)
    refine ⟨_, _, pre2 _ ?_, hrun, hended, _, _, rfl, ?_, ⟨_, rfl⟩, hW, hsame.mono (by decide) (by decide)⟩
    · show Steps p.tables e below (T1.setTop (mkF m 13 #[.val (.long q0), .second, .val (.long ((remV (-1 : Int64) q0) + (1 : Int64))), .second] [(.int (lcmpW ((remV (-1 : Int64) q0) + (1 : Int64)) q0))])) _
      refine XS.ifYes X1.here hx rfl (pc0 := 13) (pc' := 20) rfl (hb hby d1_13) rfl ((if0 _ _).trans (feq (show ¬ ((lcmpW ((remV (-1 : Int64) q0) + (1 : Int64)) q0) = (0 : Int32)) from (fun q => hc13 ((lw_eq _ _).mp q)))).2) (by decide) (by decide) ?_
      show Steps p.tables e below (T1.setTop (mkF m 20 #[.val (.long q0), .second, .val (.long ((remV (-1 : Int64) q0) + (1 : Int64))), .second] [])) _
      refine XS.lloadN X1.here hx rfl (hb hby d1_20) rfl ?_
      show Steps p.tables e below (T1.setTop (mkF m 21 #[.val (.long q0), .second, .val (.long ((remV (-1 : Int64) q0) + (1 : Int64))), .second] [(.long ((remV (-1 : Int64) q0) + (1 : Int64)))])) _
      exact retOut X1 hx (t := .long) (i := .lreturn) Bd.returns rfl (Or.inr (Or.inl ⟨rfl, rfl, _, rfl⟩)) (hb hby d1_21) hr
    · show Q1 q0 h0 n0 _ T1.heap _
      rw [e1]
      exact ⟨(by rw [wrapV, if_neg hc13]), N1, rfl⟩
theorem d3_0 : decode method_3_code 0 = .ok (.lload_n 0, 1) := by decide +kernel
theorem d3_1 : decode method_3_code 1 = .ok (.lconst 0, 1) := by decide +kernel
theorem d3_2 : decode method_3_code 2 = .ok (.lcmp, 1) := by decide +kernel
theorem d3_3 : decode method_3_code 3 = .ok (.ifCond .ge 16, 3) := by decide +kernel
theorem d3_6 : decode method_3_code 6 = .ok (.lload_n 0, 1) := by decide +kernel
theorem d3_7 : decode method_3_code 7 = .ok (.ldc2_w 20, 3) := by decide +kernel
theorem d3_10 : decode method_3_code 10 = .ok (.lcmp, 1) := by decide +kernel
theorem d3_11 : decode method_3_code 11 = .ok (.ifCond .ne 5, 3) := by decide +kernel
theorem d3_14 : decode method_3_code 14 = .ok (.lconst 0, 1) := by decide +kernel
theorem d3_15 : decode method_3_code 15 = .ok (.lreturn, 1) := by decide +kernel
theorem d3_16 : decode method_3_code 16 = .ok (.lload_n 0, 1) := by decide +kernel
theorem d3_17 : decode method_3_code 17 = .ok (.lneg, 1) := by decide +kernel
theorem d3_18 : decode method_3_code 18 = .ok (.lreturn, 1) := by decide +kernel
theorem d3_19 : decode method_3_code 19 = .ok (.ldc2_w 22, 3) := by decide +kernel
theorem d3_22 : decode method_3_code 22 = .ok (.lload_n 0, 1) := by decide +kernel
theorem d3_23 : decode method_3_code 23 = .ok (.lrem, 1) := by decide +kernel
theorem d3_24 : decode method_3_code 24 = .ok (.lconst 1, 1) := by decide +kernel
theorem d3_25 : decode method_3_code 25 = .ok (.ladd, 1) := by decide +kernel
theorem d3_26 : decode method_3_code 26 = .ok (.lload_n 0, 1) := by decide +kernel
theorem d3_27 : decode method_3_code 27 = .ok (.lrem, 1) := by decide +kernel
theorem d3_28 : decode method_3_code 28 = .ok (.lstore_n 2, 1) := by decide +kernel
theorem d3_29 : decode method_3_code 29 = .ok (.lload_n 0, 1) := by decide +kernel
theorem d3_30 : decode method_3_code 30 = .ok (.lload_n 2, 1) := by decide +kernel
theorem d3_31 : decode method_3_code 31 = .ok (.lsub, 1) := by decide +kernel
theorem d3_32 : decode method_3_code 32 = .ok (.lstore 4, 2) := by decide +kernel
theorem d3_34 : decode method_3_code 34 = .ok (.lload_n 2, 1) := by decide +kernel
theorem d3_35 : decode method_3_code 35 = .ok (.lload 4, 2) := by decide +kernel
theorem d3_37 : decode method_3_code 37 = .ok (.lcmp, 1) := by decide +kernel
theorem d3_38 : decode method_3_code 38 = .ok (.ifCond .lt 8, 3) := by decide +kernel
theorem d3_41 : decode method_3_code 41 = .ok (.lload_n 2, 1) := by decide +kernel
theorem d3_42 : decode method_3_code 42 = .ok (.lload 4, 2) := by decide +kernel
theorem d3_44 : decode method_3_code 44 = .ok (.lsub, 1) := by decide +kernel
theorem d3_45 : decode method_3_code 45 = .ok (.lreturn, 1) := by decide +kernel
theorem d3_46 : decode method_3_code 46 = .ok (.lload_n 2, 1) := by decide +kernel
theorem d3_47 : decode method_3_code 47 = .ok (.lload_n 2, 1) := by decide +kernel
theorem d3_48 : decode method_3_code 48 = .ok (.ladd, 1) := by decide +kernel
theorem d3_49 : decode method_3_code 49 = .ok (.lreturn, 1) := by decide +kernel
theorem pn_2 : plainName "com/example/bitsieve/bitsieve/filter/PositionsWrapPinLaw" = true := by first | (simp [plainName, overriddenIn]; done) | decide +kernel
theorem ef_3 (m : MethodId) (q0 : Int64) : entryFrame m #[(.long q0)] 6 = mkF m 0 #[.val (.long q0), .second, .unset, .unset, .unset, .unset] [] := by first | (simp [entryFrame, mkF, argsToLocals, Value.category]; done) | rfl
def Q3 (q0 : Int64) (h0 : Heap) (n0 : Nat) (v : Option Value) (h : Heap) (L : List Loc) : Prop := v = some (.long (refV q0)) ∧ Fr n0 L ∧ h = h0
set_option maxRecDepth 65536 in
set_option maxHeartbeats 40000000 in
theorem rm3 (l : Launch) (Z : State) (a0 : Array Value) (hw : ∀ d ∈ tables_1, d.before a0 Z = true) (ws : List Jvm.Cond) (q0 : Int64) (h0 : Heap) (n0 : Nat) (Z0 : n0 ≤ h0.size) (hnz : q0 ≠ 0) :
    MetFree l (⟨"com/example/bitsieve/bitsieve/filter/PositionsWrapPinLaw", "reference", "(J)J"⟩ : MethodName) (head1 (Jvm.Cond.code (⟨"com/example/bitsieve/bitsieve/filter/PositionsWrapPinLaw", "reference", "(J)J"⟩ : MethodName) method_3_code 6 (some .long) :: ws) ({ frames := 0, cells := 0, slots := 0, locals := 0 } : Room)) (fun a U => a = #[(.long q0)] ∧ Z.Warmed39 U.vm ∧ U.heap = h0) (fun _ _ _ _ _ => True) (fun _ U o U' => ∃ v L, o = .returned v ∧ Q3 q0 h0 n0 v U'.heap L ∧ FrameEnd U o U' L ({ frames := 0, cells := 0, slots := 0, locals := 0 } : Room).cells ({ frames := 0, cells := 0, slots := 0, locals := 0 } : Room).slots) := by
  refine MetFree.of_bodySF (plainFor_of_name pn_2) hisR ?_
  intro p e s m args below meth c s₁ Bd hml0 hP hK
  obtain ⟨rfl, hZ, hh⟩ := hP
  have hx := Bd.exec
  have hby := Bd.bytes
  have hml : c.maxLocals = 6 := hml0
  have hown : s.vm.findClass "com/example/bitsieve/bitsieve/filter/PositionsWrapPinLaw" = some m.cls := findClass_of_methodNamed Bd.named
  have hnm := (name_of_methodNamed Bd.named Bd.method).1
  have X0 : Stand p l e ({ frames := 0, cells := 0, slots := 0, locals := 0 } : Room) s m #[(.long q0)] below meth c s₁ [] 0 0 := Stand.of_body Bd
  have e0 : s₁.heap = h0 := by rw [← hh, Bd.state]; rfl
  have N0 := Fr.nil n0
  have pre0 : ∀ t, Steps p.tables e below (s₁.setTop (mkF m 0 #[.val (.long q0), .second, .unset, .unset, .unset, .unset] [])) t → Steps p.tables e below (s₁.setTop (entryFrame m #[(.long q0)] 6)) t := fun t k => castTop (ef_3 m q0) k
  have pre1 : ∀ t, Steps p.tables e below (s₁.setTop (mkF m 3 #[.val (.long q0), .second, .unset, .unset, .unset, .unset] [(.int (lcmpW q0 (0 : Int64)))])) t → Steps p.tables e below (s₁.setTop (entryFrame m #[(.long q0)] 6)) t := fun t kt => pre0 t (by
      show Steps p.tables e below (s₁.setTop (mkF m 0 #[.val (.long q0), .second, .unset, .unset, .unset, .unset] [])) _
      refine XS.lloadN X0.here hx rfl (hb hby d3_0) rfl ?_
      show Steps p.tables e below (s₁.setTop (mkF m 1 #[.val (.long q0), .second, .unset, .unset, .unset, .unset] [(.long q0)])) _
      refine XS.lconst X0.here hx rfl (hb hby d3_1) ?_
      show Steps p.tables e below (s₁.setTop (mkF m 2 #[.val (.long q0), .second, .unset, .unset, .unset, .unset] [(.long (0 : Int64)), (.long q0)])) _
      refine XS.lcmp X0.here hx rfl (hb hby d3_2) rfl ?_
      exact kt)
  by_cases hc3 : q0 < (0 : Int64)
  · have pre2 : ∀ t, Steps p.tables e below (s₁.setTop (mkF m 11 #[.val (.long q0), .second, .unset, .unset, .unset, .unset] [(.int (lcmpW q0 (-9223372036854775808 : Int64)))])) t → Steps p.tables e below (s₁.setTop (entryFrame m #[(.long q0)] 6)) t := fun t kt => pre1 t (by
        show Steps p.tables e below (s₁.setTop (mkF m 3 #[.val (.long q0), .second, .unset, .unset, .unset, .unset] [(.int (lcmpW q0 (0 : Int64)))])) _
        refine XS.ifNo X0.here hx rfl (hb hby d3_3) rfl ((if0 _ _).trans (tlt (show (lcmpW q0 (0 : Int64)) < (0 : Int32) from ((lw_lt _ _).mpr hc3))).2.1) ?_
        show Steps p.tables e below (s₁.setTop (mkF m 6 #[.val (.long q0), .second, .unset, .unset, .unset, .unset] [])) _
        refine XS.lloadN X0.here hx rfl (hb hby d3_6) rfl ?_
        show Steps p.tables e below (s₁.setTop (mkF m 7 #[.val (.long q0), .second, .unset, .unset, .unset, .unset] [(.long q0)])) _
        refine X0.ldc2J hx hown (mvT hZ (hw _ (List.mem_of_getElem? (i := 15) rfl))) (g := (mkF m 7 #[.val (.long q0), .second, .unset, .unset, .unset, .unset] [(.long q0)])) rfl (hb hby d3_7) ?_
        show Steps p.tables e below (s₁.setTop (mkF m 10 #[.val (.long q0), .second, .unset, .unset, .unset, .unset] [(.long (-9223372036854775808 : Int64)), (.long q0)])) _
        refine XS.lcmp X0.here hx rfl (hb hby d3_10) rfl ?_
        exact kt)
    by_cases hc11 : q0 = (-9223372036854775808 : Int64)
    · obtain ⟨fs, hr, hrun, hended, hW, hsame⟩ := X0.leave (v := some (.long (0 : Int64))) (fun h => by rw [Bd.returns] at h; cases h)
      refine ⟨_, _, pre2 _ ?_, hrun, hended, _, _, rfl, ?_, ⟨_, rfl⟩, hW, hsame.mono (by decide) (by decide)⟩
      · show Steps p.tables e below (s₁.setTop (mkF m 11 #[.val (.long q0), .second, .unset, .unset, .unset, .unset] [(.int (lcmpW q0 (-9223372036854775808 : Int64)))])) _
        refine XS.ifNo X0.here hx rfl (hb hby d3_11) rfl ((if0 _ _).trans (teq (show (lcmpW q0 (-9223372036854775808 : Int64)) = (0 : Int32) from ((lw_eq _ _).mpr hc11))).2) ?_
        show Steps p.tables e below (s₁.setTop (mkF m 14 #[.val (.long q0), .second, .unset, .unset, .unset, .unset] [])) _
        refine XS.lconst X0.here hx rfl (hb hby d3_14) ?_
        show Steps p.tables e below (s₁.setTop (mkF m 15 #[.val (.long q0), .second, .unset, .unset, .unset, .unset] [(.long (0 : Int64))])) _
        exact retOut X0 hx (t := .long) (i := .lreturn) Bd.returns rfl (Or.inr (Or.inl ⟨rfl, rfl, _, rfl⟩)) (hb hby d3_15) hr
      · show Q3 q0 h0 n0 _ s₁.heap _
        rw [e0]
        exact ⟨(by rw [refV, if_pos hc3, if_pos hc11]), N0, rfl⟩
    · obtain ⟨fs, hr, hrun, hended, hW, hsame⟩ := X0.leave (v := some (.long (-q0))) (fun h => by rw [Bd.returns] at h; cases h)
      refine ⟨_, _, pre2 _ ?_, hrun, hended, _, _, rfl, ?_, ⟨_, rfl⟩, hW, hsame.mono (by decide) (by decide)⟩
      · show Steps p.tables e below (s₁.setTop (mkF m 11 #[.val (.long q0), .second, .unset, .unset, .unset, .unset] [(.int (lcmpW q0 (-9223372036854775808 : Int64)))])) _
        refine XS.ifYes X0.here hx rfl (pc0 := 11) (pc' := 16) rfl (hb hby d3_11) rfl ((if0 _ _).trans (feq (show ¬ ((lcmpW q0 (-9223372036854775808 : Int64)) = (0 : Int32)) from (fun q => hc11 ((lw_eq _ _).mp q)))).2) (by decide) (by decide) ?_
        show Steps p.tables e below (s₁.setTop (mkF m 16 #[.val (.long q0), .second, .unset, .unset, .unset, .unset] [])) _
        refine XS.lloadN X0.here hx rfl (hb hby d3_16) rfl ?_
        show Steps p.tables e below (s₁.setTop (mkF m 17 #[.val (.long q0), .second, .unset, .unset, .unset, .unset] [(.long q0)])) _
        refine XS.lneg X0.here hx rfl (hb hby d3_17) rfl ?_
        show Steps p.tables e below (s₁.setTop (mkF m 18 #[.val (.long q0), .second, .unset, .unset, .unset, .unset] [(.long (-q0))])) _
        exact retOut X0 hx (t := .long) (i := .lreturn) Bd.returns rfl (Or.inr (Or.inl ⟨rfl, rfl, _, rfl⟩)) (hb hby d3_18) hr
      · show Q3 q0 h0 n0 _ s₁.heap _
        rw [e0]
        exact ⟨(by rw [refV, if_pos hc3, if_neg hc11]), N0, rfl⟩
  · have pre3 : ∀ t, Steps p.tables e below (s₁.setTop (mkF m 38 #[.val (.long q0), .second, .val (.long ((((9223372036854775807 : Int64) - ((9223372036854775807 : Int64) / q0) * q0) + (1 : Int64)) - ((((9223372036854775807 : Int64) - ((9223372036854775807 : Int64) / q0) * q0) + (1 : Int64)) / q0) * q0)), .second, .val (.long (q0 - ((((9223372036854775807 : Int64) - ((9223372036854775807 : Int64) / q0) * q0) + (1 : Int64)) - ((((9223372036854775807 : Int64) - ((9223372036854775807 : Int64) / q0) * q0) + (1 : Int64)) / q0) * q0))), .second] [(.int (lcmpW ((((9223372036854775807 : Int64) - ((9223372036854775807 : Int64) / q0) * q0) + (1 : Int64)) - ((((9223372036854775807 : Int64) - ((9223372036854775807 : Int64) / q0) * q0) + (1 : Int64)) / q0) * q0) (q0 - ((((9223372036854775807 : Int64) - ((9223372036854775807 : Int64) / q0) * q0) + (1 : Int64)) - ((((9223372036854775807 : Int64) - ((9223372036854775807 : Int64) / q0) * q0) + (1 : Int64)) / q0) * q0))))])) t → Steps p.tables e below (s₁.setTop (entryFrame m #[(.long q0)] 6)) t := fun t kt => pre1 t (by
        show Steps p.tables e below (s₁.setTop (mkF m 3 #[.val (.long q0), .second, .unset, .unset, .unset, .unset] [(.int (lcmpW q0 (0 : Int64)))])) _
        refine XS.ifYes X0.here hx rfl (pc0 := 3) (pc' := 19) rfl (hb hby d3_3) rfl ((if0 _ _).trans (flt (show ¬ ((lcmpW q0 (0 : Int64)) < (0 : Int32)) from (fun q => hc3 ((lw_lt _ _).mp q)))).2.1) (by decide) (by decide) ?_
        show Steps p.tables e below (s₁.setTop (mkF m 19 #[.val (.long q0), .second, .unset, .unset, .unset, .unset] [])) _
        refine X0.ldc2J hx hown (mvT hZ (hw _ (List.mem_of_getElem? (i := 14) rfl))) (g := (mkF m 19 #[.val (.long q0), .second, .unset, .unset, .unset, .unset] [])) rfl (hb hby d3_19) ?_
        show Steps p.tables e below (s₁.setTop (mkF m 22 #[.val (.long q0), .second, .unset, .unset, .unset, .unset] [(.long (9223372036854775807 : Int64))])) _
        refine XS.lloadN X0.here hx rfl (hb hby d3_22) rfl ?_
        show Steps p.tables e below (s₁.setTop (mkF m 23 #[.val (.long q0), .second, .unset, .unset, .unset, .unset] [(.long q0), (.long (9223372036854775807 : Int64))])) _
        refine XS.lrem X0.here hx rfl (hb hby d3_23) rfl hnz ?_
        show Steps p.tables e below (s₁.setTop (mkF m 24 #[.val (.long q0), .second, .unset, .unset, .unset, .unset] [(.long ((9223372036854775807 : Int64) - ((9223372036854775807 : Int64) / q0) * q0))])) _
        refine XS.lconst X0.here hx rfl (hb hby d3_24) ?_
        show Steps p.tables e below (s₁.setTop (mkF m 25 #[.val (.long q0), .second, .unset, .unset, .unset, .unset] [(.long (1 : Int64)), (.long ((9223372036854775807 : Int64) - ((9223372036854775807 : Int64) / q0) * q0))])) _
        refine XS.ladd X0.here hx rfl (hb hby d3_25) rfl ?_
        show Steps p.tables e below (s₁.setTop (mkF m 26 #[.val (.long q0), .second, .unset, .unset, .unset, .unset] [(.long (((9223372036854775807 : Int64) - ((9223372036854775807 : Int64) / q0) * q0) + (1 : Int64)))])) _
        refine XS.lloadN X0.here hx rfl (hb hby d3_26) rfl ?_
        show Steps p.tables e below (s₁.setTop (mkF m 27 #[.val (.long q0), .second, .unset, .unset, .unset, .unset] [(.long q0), (.long (((9223372036854775807 : Int64) - ((9223372036854775807 : Int64) / q0) * q0) + (1 : Int64)))])) _
        refine XS.lrem X0.here hx rfl (hb hby d3_27) rfl hnz ?_
        show Steps p.tables e below (s₁.setTop (mkF m 28 #[.val (.long q0), .second, .unset, .unset, .unset, .unset] [(.long ((((9223372036854775807 : Int64) - ((9223372036854775807 : Int64) / q0) * q0) + (1 : Int64)) - ((((9223372036854775807 : Int64) - ((9223372036854775807 : Int64) / q0) * q0) + (1 : Int64)) / q0) * q0))])) _
        refine XS.lstoreN X0.here hx rfl (hb hby d3_28) rfl (l' := #[.val (.long q0), .second, .val (.long ((((9223372036854775807 : Int64) - ((9223372036854775807 : Int64) / q0) * q0) + (1 : Int64)) - ((((9223372036854775807 : Int64) - ((9223372036854775807 : Int64) / q0) * q0) + (1 : Int64)) / q0) * q0)), .second, .unset, .unset]) rfl ?_
        show Steps p.tables e below (s₁.setTop (mkF m 29 #[.val (.long q0), .second, .val (.long ((((9223372036854775807 : Int64) - ((9223372036854775807 : Int64) / q0) * q0) + (1 : Int64)) - ((((9223372036854775807 : Int64) - ((9223372036854775807 : Int64) / q0) * q0) + (1 : Int64)) / q0) * q0)), .second, .unset, .unset] [])) _
        refine XS.lloadN X0.here hx rfl (hb hby d3_29) rfl ?_
        show Steps p.tables e below (s₁.setTop (mkF m 30 #[.val (.long q0), .second, .val (.long ((((9223372036854775807 : Int64) - ((9223372036854775807 : Int64) / q0) * q0) + (1 : Int64)) - ((((9223372036854775807 : Int64) - ((9223372036854775807 : Int64) / q0) * q0) + (1 : Int64)) / q0) * q0)), .second, .unset, .unset] [(.long q0)])) _
        refine XS.lloadN X0.here hx rfl (hb hby d3_30) rfl ?_
        show Steps p.tables e below (s₁.setTop (mkF m 31 #[.val (.long q0), .second, .val (.long ((((9223372036854775807 : Int64) - ((9223372036854775807 : Int64) / q0) * q0) + (1 : Int64)) - ((((9223372036854775807 : Int64) - ((9223372036854775807 : Int64) / q0) * q0) + (1 : Int64)) / q0) * q0)), .second, .unset, .unset] [(.long ((((9223372036854775807 : Int64) - ((9223372036854775807 : Int64) / q0) * q0) + (1 : Int64)) - ((((9223372036854775807 : Int64) - ((9223372036854775807 : Int64) / q0) * q0) + (1 : Int64)) / q0) * q0)), (.long q0)])) _
        refine XS.lsub X0.here hx rfl (hb hby d3_31) rfl ?_
        show Steps p.tables e below (s₁.setTop (mkF m 32 #[.val (.long q0), .second, .val (.long ((((9223372036854775807 : Int64) - ((9223372036854775807 : Int64) / q0) * q0) + (1 : Int64)) - ((((9223372036854775807 : Int64) - ((9223372036854775807 : Int64) / q0) * q0) + (1 : Int64)) / q0) * q0)), .second, .unset, .unset] [(.long (q0 - ((((9223372036854775807 : Int64) - ((9223372036854775807 : Int64) / q0) * q0) + (1 : Int64)) - ((((9223372036854775807 : Int64) - ((9223372036854775807 : Int64) / q0) * q0) + (1 : Int64)) / q0) * q0)))])) _
        refine XS.lstore X0.here hx rfl (hb hby d3_32) rfl (l' := #[.val (.long q0), .second, .val (.long ((((9223372036854775807 : Int64) - ((9223372036854775807 : Int64) / q0) * q0) + (1 : Int64)) - ((((9223372036854775807 : Int64) - ((9223372036854775807 : Int64) / q0) * q0) + (1 : Int64)) / q0) * q0)), .second, .val (.long (q0 - ((((9223372036854775807 : Int64) - ((9223372036854775807 : Int64) / q0) * q0) + (1 : Int64)) - ((((9223372036854775807 : Int64) - ((9223372036854775807 : Int64) / q0) * q0) + (1 : Int64)) / q0) * q0))), .second]) rfl ?_
        show Steps p.tables e below (s₁.setTop (mkF m 34 #[.val (.long q0), .second, .val (.long ((((9223372036854775807 : Int64) - ((9223372036854775807 : Int64) / q0) * q0) + (1 : Int64)) - ((((9223372036854775807 : Int64) - ((9223372036854775807 : Int64) / q0) * q0) + (1 : Int64)) / q0) * q0)), .second, .val (.long (q0 - ((((9223372036854775807 : Int64) - ((9223372036854775807 : Int64) / q0) * q0) + (1 : Int64)) - ((((9223372036854775807 : Int64) - ((9223372036854775807 : Int64) / q0) * q0) + (1 : Int64)) / q0) * q0))), .second] [])) _
        refine XS.lloadN X0.here hx rfl (hb hby d3_34) rfl ?_
        show Steps p.tables e below (s₁.setTop (mkF m 35 #[.val (.long q0), .second, .val (.long ((((9223372036854775807 : Int64) - ((9223372036854775807 : Int64) / q0) * q0) + (1 : Int64)) - ((((9223372036854775807 : Int64) - ((9223372036854775807 : Int64) / q0) * q0) + (1 : Int64)) / q0) * q0)), .second, .val (.long (q0 - ((((9223372036854775807 : Int64) - ((9223372036854775807 : Int64) / q0) * q0) + (1 : Int64)) - ((((9223372036854775807 : Int64) - ((9223372036854775807 : Int64) / q0) * q0) + (1 : Int64)) / q0) * q0))), .second] [(.long ((((9223372036854775807 : Int64) - ((9223372036854775807 : Int64) / q0) * q0) + (1 : Int64)) - ((((9223372036854775807 : Int64) - ((9223372036854775807 : Int64) / q0) * q0) + (1 : Int64)) / q0) * q0))])) _
        refine XS.lload X0.here hx rfl (hb hby d3_35) rfl ?_
        show Steps p.tables e below (s₁.setTop (mkF m 37 #[.val (.long q0), .second, .val (.long ((((9223372036854775807 : Int64) - ((9223372036854775807 : Int64) / q0) * q0) + (1 : Int64)) - ((((9223372036854775807 : Int64) - ((9223372036854775807 : Int64) / q0) * q0) + (1 : Int64)) / q0) * q0)), .second, .val (.long (q0 - ((((9223372036854775807 : Int64) - ((9223372036854775807 : Int64) / q0) * q0) + (1 : Int64)) - ((((9223372036854775807 : Int64) - ((9223372036854775807 : Int64) / q0) * q0) + (1 : Int64)) / q0) * q0))), .second] [(.long (q0 - ((((9223372036854775807 : Int64) - ((9223372036854775807 : Int64) / q0) * q0) + (1 : Int64)) - ((((9223372036854775807 : Int64) - ((9223372036854775807 : Int64) / q0) * q0) + (1 : Int64)) / q0) * q0))), (.long ((((9223372036854775807 : Int64) - ((9223372036854775807 : Int64) / q0) * q0) + (1 : Int64)) - ((((9223372036854775807 : Int64) - ((9223372036854775807 : Int64) / q0) * q0) + (1 : Int64)) / q0) * q0))])) _
        refine XS.lcmp X0.here hx rfl (hb hby d3_37) rfl ?_
        exact kt)
    by_cases hc38 : ((((9223372036854775807 : Int64) - ((9223372036854775807 : Int64) / q0) * q0) + (1 : Int64)) - ((((9223372036854775807 : Int64) - ((9223372036854775807 : Int64) / q0) * q0) + (1 : Int64)) / q0) * q0) < (q0 - ((((9223372036854775807 : Int64) - ((9223372036854775807 : Int64) / q0) * q0) + (1 : Int64)) - ((((9223372036854775807 : Int64) - ((9223372036854775807 : Int64) / q0) * q0) + (1 : Int64)) / q0) * q0))
    · obtain ⟨fs, hr, hrun, hended, hW, hsame⟩ := X0.leave (v := some (.long (((((9223372036854775807 : Int64) - ((9223372036854775807 : Int64) / q0) * q0) + (1 : Int64)) - ((((9223372036854775807 : Int64) - ((9223372036854775807 : Int64) / q0) * q0) + (1 : Int64)) / q0) * q0) + ((((9223372036854775807 : Int64) - ((9223372036854775807 : Int64) / q0) * q0) + (1 : Int64)) - ((((9223372036854775807 : Int64) - ((9223372036854775807 : Int64) / q0) * q0) + (1 : Int64)) / q0) * q0)))) (fun h => by rw [Bd.returns] at h; cases h)
      refine ⟨_, _, pre3 _ ?_, hrun, hended, _, _, rfl, ?_, ⟨_, rfl⟩, hW, hsame.mono (by decide) (by decide)⟩
      · show Steps p.tables e below (s₁.setTop (mkF m 38 #[.val (.long q0), .second, .val (.long ((((9223372036854775807 : Int64) - ((9223372036854775807 : Int64) / q0) * q0) + (1 : Int64)) - ((((9223372036854775807 : Int64) - ((9223372036854775807 : Int64) / q0) * q0) + (1 : Int64)) / q0) * q0)), .second, .val (.long (q0 - ((((9223372036854775807 : Int64) - ((9223372036854775807 : Int64) / q0) * q0) + (1 : Int64)) - ((((9223372036854775807 : Int64) - ((9223372036854775807 : Int64) / q0) * q0) + (1 : Int64)) / q0) * q0))), .second] [(.int (lcmpW ((((9223372036854775807 : Int64) - ((9223372036854775807 : Int64) / q0) * q0) + (1 : Int64)) - ((((9223372036854775807 : Int64) - ((9223372036854775807 : Int64) / q0) * q0) + (1 : Int64)) / q0) * q0) (q0 - ((((9223372036854775807 : Int64) - ((9223372036854775807 : Int64) / q0) * q0) + (1 : Int64)) - ((((9223372036854775807 : Int64) - ((9223372036854775807 : Int64) / q0) * q0) + (1 : Int64)) / q0) * q0))))])) _
        refine XS.ifYes X0.here hx rfl (pc0 := 38) (pc' := 46) rfl (hb hby d3_38) rfl ((if0 _ _).trans (tlt (show (lcmpW ((((9223372036854775807 : Int64) - ((9223372036854775807 : Int64) / q0) * q0) + (1 : Int64)) - ((((9223372036854775807 : Int64) - ((9223372036854775807 : Int64) / q0) * q0) + (1 : Int64)) / q0) * q0) (q0 - ((((9223372036854775807 : Int64) - ((9223372036854775807 : Int64) / q0) * q0) + (1 : Int64)) - ((((9223372036854775807 : Int64) - ((9223372036854775807 : Int64) / q0) * q0) + (1 : Int64)) / q0) * q0))) < (0 : Int32) from ((lw_lt _ _).mpr hc38))).1) (by decide) (by decide) ?_
        show Steps p.tables e below (s₁.setTop (mkF m 46 #[.val (.long q0), .second, .val (.long ((((9223372036854775807 : Int64) - ((9223372036854775807 : Int64) / q0) * q0) + (1 : Int64)) - ((((9223372036854775807 : Int64) - ((9223372036854775807 : Int64) / q0) * q0) + (1 : Int64)) / q0) * q0)), .second, .val (.long (q0 - ((((9223372036854775807 : Int64) - ((9223372036854775807 : Int64) / q0) * q0) + (1 : Int64)) - ((((9223372036854775807 : Int64) - ((9223372036854775807 : Int64) / q0) * q0) + (1 : Int64)) / q0) * q0))), .second] [])) _
        refine XS.lloadN X0.here hx rfl (hb hby d3_46) rfl ?_
        show Steps p.tables e below (s₁.setTop (mkF m 47 #[.val (.long q0), .second, .val (.long ((((9223372036854775807 : Int64) - ((9223372036854775807 : Int64) / q0) * q0) + (1 : Int64)) - ((((9223372036854775807 : Int64) - ((9223372036854775807 : Int64) / q0) * q0) + (1 : Int64)) / q0) * q0)), .second, .val (.long (q0 - ((((9223372036854775807 : Int64) - ((9223372036854775807 : Int64) / q0) * q0) + (1 : Int64)) - ((((9223372036854775807 : Int64) - ((9223372036854775807 : Int64) / q0) * q0) + (1 : Int64)) / q0) * q0))), .second] [(.long ((((9223372036854775807 : Int64) - ((9223372036854775807 : Int64) / q0) * q0) + (1 : Int64)) - ((((9223372036854775807 : Int64) - ((9223372036854775807 : Int64) / q0) * q0) + (1 : Int64)) / q0) * q0))])) _
        refine XS.lloadN X0.here hx rfl (hb hby d3_47) rfl ?_
        show Steps p.tables e below (s₁.setTop (mkF m 48 #[.val (.long q0), .second, .val (.long ((((9223372036854775807 : Int64) - ((9223372036854775807 : Int64) / q0) * q0) + (1 : Int64)) - ((((9223372036854775807 : Int64) - ((9223372036854775807 : Int64) / q0) * q0) + (1 : Int64)) / q0) * q0)), .second, .val (.long (q0 - ((((9223372036854775807 : Int64) - ((9223372036854775807 : Int64) / q0) * q0) + (1 : Int64)) - ((((9223372036854775807 : Int64) - ((9223372036854775807 : Int64) / q0) * q0) + (1 : Int64)) / q0) * q0))), .second] [(.long ((((9223372036854775807 : Int64) - ((9223372036854775807 : Int64) / q0) * q0) + (1 : Int64)) - ((((9223372036854775807 : Int64) - ((9223372036854775807 : Int64) / q0) * q0) + (1 : Int64)) / q0) * q0)), (.long ((((9223372036854775807 : Int64) - ((9223372036854775807 : Int64) / q0) * q0) + (1 : Int64)) - ((((9223372036854775807 : Int64) - ((9223372036854775807 : Int64) / q0) * q0) + (1 : Int64)) / q0) * q0))])) _
        refine XS.ladd X0.here hx rfl (hb hby d3_48) rfl ?_
        show Steps p.tables e below (s₁.setTop (mkF m 49 #[.val (.long q0), .second, .val (.long ((((9223372036854775807 : Int64) - ((9223372036854775807 : Int64) / q0) * q0) + (1 : Int64)) - ((((9223372036854775807 : Int64) - ((9223372036854775807 : Int64) / q0) * q0) + (1 : Int64)) / q0) * q0)), .second, .val (.long (q0 - ((((9223372036854775807 : Int64) - ((9223372036854775807 : Int64) / q0) * q0) + (1 : Int64)) - ((((9223372036854775807 : Int64) - ((9223372036854775807 : Int64) / q0) * q0) + (1 : Int64)) / q0) * q0))), .second] [(.long (((((9223372036854775807 : Int64) - ((9223372036854775807 : Int64) / q0) * q0) + (1 : Int64)) - ((((9223372036854775807 : Int64) - ((9223372036854775807 : Int64) / q0) * q0) + (1 : Int64)) / q0) * q0) + ((((9223372036854775807 : Int64) - ((9223372036854775807 : Int64) / q0) * q0) + (1 : Int64)) - ((((9223372036854775807 : Int64) - ((9223372036854775807 : Int64) / q0) * q0) + (1 : Int64)) / q0) * q0)))])) _
        exact retOut X0 hx (t := .long) (i := .lreturn) Bd.returns rfl (Or.inr (Or.inl ⟨rfl, rfl, _, rfl⟩)) (hb hby d3_49) hr
      · show Q3 q0 h0 n0 _ s₁.heap _
        rw [e0]
        exact ⟨(by rw [refV, if_neg hc3, if_pos hc38]), N0, rfl⟩
    · obtain ⟨fs, hr, hrun, hended, hW, hsame⟩ := X0.leave (v := some (.long (((((9223372036854775807 : Int64) - ((9223372036854775807 : Int64) / q0) * q0) + (1 : Int64)) - ((((9223372036854775807 : Int64) - ((9223372036854775807 : Int64) / q0) * q0) + (1 : Int64)) / q0) * q0) - (q0 - ((((9223372036854775807 : Int64) - ((9223372036854775807 : Int64) / q0) * q0) + (1 : Int64)) - ((((9223372036854775807 : Int64) - ((9223372036854775807 : Int64) / q0) * q0) + (1 : Int64)) / q0) * q0))))) (fun h => by rw [Bd.returns] at h; cases h)
      refine ⟨_, _, pre3 _ ?_, hrun, hended, _, _, rfl, ?_, ⟨_, rfl⟩, hW, hsame.mono (by decide) (by decide)⟩
      · show Steps p.tables e below (s₁.setTop (mkF m 38 #[.val (.long q0), .second, .val (.long ((((9223372036854775807 : Int64) - ((9223372036854775807 : Int64) / q0) * q0) + (1 : Int64)) - ((((9223372036854775807 : Int64) - ((9223372036854775807 : Int64) / q0) * q0) + (1 : Int64)) / q0) * q0)), .second, .val (.long (q0 - ((((9223372036854775807 : Int64) - ((9223372036854775807 : Int64) / q0) * q0) + (1 : Int64)) - ((((9223372036854775807 : Int64) - ((9223372036854775807 : Int64) / q0) * q0) + (1 : Int64)) / q0) * q0))), .second] [(.int (lcmpW ((((9223372036854775807 : Int64) - ((9223372036854775807 : Int64) / q0) * q0) + (1 : Int64)) - ((((9223372036854775807 : Int64) - ((9223372036854775807 : Int64) / q0) * q0) + (1 : Int64)) / q0) * q0) (q0 - ((((9223372036854775807 : Int64) - ((9223372036854775807 : Int64) / q0) * q0) + (1 : Int64)) - ((((9223372036854775807 : Int64) - ((9223372036854775807 : Int64) / q0) * q0) + (1 : Int64)) / q0) * q0))))])) _
        refine XS.ifNo X0.here hx rfl (hb hby d3_38) rfl ((if0 _ _).trans (flt (show ¬ ((lcmpW ((((9223372036854775807 : Int64) - ((9223372036854775807 : Int64) / q0) * q0) + (1 : Int64)) - ((((9223372036854775807 : Int64) - ((9223372036854775807 : Int64) / q0) * q0) + (1 : Int64)) / q0) * q0) (q0 - ((((9223372036854775807 : Int64) - ((9223372036854775807 : Int64) / q0) * q0) + (1 : Int64)) - ((((9223372036854775807 : Int64) - ((9223372036854775807 : Int64) / q0) * q0) + (1 : Int64)) / q0) * q0))) < (0 : Int32)) from (fun q => hc38 ((lw_lt _ _).mp q)))).1) ?_
        show Steps p.tables e below (s₁.setTop (mkF m 41 #[.val (.long q0), .second, .val (.long ((((9223372036854775807 : Int64) - ((9223372036854775807 : Int64) / q0) * q0) + (1 : Int64)) - ((((9223372036854775807 : Int64) - ((9223372036854775807 : Int64) / q0) * q0) + (1 : Int64)) / q0) * q0)), .second, .val (.long (q0 - ((((9223372036854775807 : Int64) - ((9223372036854775807 : Int64) / q0) * q0) + (1 : Int64)) - ((((9223372036854775807 : Int64) - ((9223372036854775807 : Int64) / q0) * q0) + (1 : Int64)) / q0) * q0))), .second] [])) _
        refine XS.lloadN X0.here hx rfl (hb hby d3_41) rfl ?_
        show Steps p.tables e below (s₁.setTop (mkF m 42 #[.val (.long q0), .second, .val (.long ((((9223372036854775807 : Int64) - ((9223372036854775807 : Int64) / q0) * q0) + (1 : Int64)) - ((((9223372036854775807 : Int64) - ((9223372036854775807 : Int64) / q0) * q0) + (1 : Int64)) / q0) * q0)), .second, .val (.long (q0 - ((((9223372036854775807 : Int64) - ((9223372036854775807 : Int64) / q0) * q0) + (1 : Int64)) - ((((9223372036854775807 : Int64) - ((9223372036854775807 : Int64) / q0) * q0) + (1 : Int64)) / q0) * q0))), .second] [(.long ((((9223372036854775807 : Int64) - ((9223372036854775807 : Int64) / q0) * q0) + (1 : Int64)) - ((((9223372036854775807 : Int64) - ((9223372036854775807 : Int64) / q0) * q0) + (1 : Int64)) / q0) * q0))])) _
        refine XS.lload X0.here hx rfl (hb hby d3_42) rfl ?_
        show Steps p.tables e below (s₁.setTop (mkF m 44 #[.val (.long q0), .second, .val (.long ((((9223372036854775807 : Int64) - ((9223372036854775807 : Int64) / q0) * q0) + (1 : Int64)) - ((((9223372036854775807 : Int64) - ((9223372036854775807 : Int64) / q0) * q0) + (1 : Int64)) / q0) * q0)), .second, .val (.long (q0 - ((((9223372036854775807 : Int64) - ((9223372036854775807 : Int64) / q0) * q0) + (1 : Int64)) - ((((9223372036854775807 : Int64) - ((9223372036854775807 : Int64) / q0) * q0) + (1 : Int64)) / q0) * q0))), .second] [(.long (q0 - ((((9223372036854775807 : Int64) - ((9223372036854775807 : Int64) / q0) * q0) + (1 : Int64)) - ((((9223372036854775807 : Int64) - ((9223372036854775807 : Int64) / q0) * q0) + (1 : Int64)) / q0) * q0))), (.long ((((9223372036854775807 : Int64) - ((9223372036854775807 : Int64) / q0) * q0) + (1 : Int64)) - ((((9223372036854775807 : Int64) - ((9223372036854775807 : Int64) / q0) * q0) + (1 : Int64)) / q0) * q0))])) _
        refine XS.lsub X0.here hx rfl (hb hby d3_44) rfl ?_
        show Steps p.tables e below (s₁.setTop (mkF m 45 #[.val (.long q0), .second, .val (.long ((((9223372036854775807 : Int64) - ((9223372036854775807 : Int64) / q0) * q0) + (1 : Int64)) - ((((9223372036854775807 : Int64) - ((9223372036854775807 : Int64) / q0) * q0) + (1 : Int64)) / q0) * q0)), .second, .val (.long (q0 - ((((9223372036854775807 : Int64) - ((9223372036854775807 : Int64) / q0) * q0) + (1 : Int64)) - ((((9223372036854775807 : Int64) - ((9223372036854775807 : Int64) / q0) * q0) + (1 : Int64)) / q0) * q0))), .second] [(.long (((((9223372036854775807 : Int64) - ((9223372036854775807 : Int64) / q0) * q0) + (1 : Int64)) - ((((9223372036854775807 : Int64) - ((9223372036854775807 : Int64) / q0) * q0) + (1 : Int64)) / q0) * q0) - (q0 - ((((9223372036854775807 : Int64) - ((9223372036854775807 : Int64) / q0) * q0) + (1 : Int64)) - ((((9223372036854775807 : Int64) - ((9223372036854775807 : Int64) / q0) * q0) + (1 : Int64)) / q0) * q0))))])) _
        exact retOut X0 hx (t := .long) (i := .lreturn) Bd.returns rfl (Or.inr (Or.inl ⟨rfl, rfl, _, rfl⟩)) (hb hby d3_45) hr
      · show Q3 q0 h0 n0 _ s₁.heap _
        rw [e0]
        exact ⟨(by rw [refV, if_neg hc3, if_neg hc38]), N0, rfl⟩
theorem pd_1 : parseMethodDescriptor "(J)J" = some ⟨[.long], some .long⟩ := by decide +kernel
theorem ef_0 (m : MethodId) (q0 : Int64) : entryFrame m #[(.long q0)] maxLocals = mkF m 0 #[.val (.long q0), .second, .unset, .unset, .unset, .unset] [] := by first | (simp [entryFrame, mkF, argsToLocals, Value.category, maxLocals]; done) | rfl
def Q0 (h0 : Heap) (n0 : Nat) (v : Option Value) (h : Heap) (L : List Loc) : Prop := v = some (.int 1) ∧ Fr n0 L
set_option maxRecDepth 65536 in
set_option maxHeartbeats 40000000 in
theorem rm0 (l : Launch) (Z : State) (a0 : Array Value) (hw : ∀ d ∈ tables_1, d.before a0 Z = true) (ws : List Jvm.Cond) (q0 : Int64) (h0 : Heap) (n0 : Nat) (Z0 : n0 ≤ h0.size)  :
    MetFree l x (head1 (Jvm.Cond.code x code maxLocals ret :: ws) room_1) (fun a U => a = #[(.long q0)] ∧ Z.Warmed39 U.vm ∧ U.heap = h0) (fun _ _ _ _ _ => True) (fun _ U o U' => ∃ v L, o = .returned v ∧ Q0 h0 n0 v U'.heap L ∧ FrameEnd U o U' L 0 0) := by
  refine MetFree.of_bodySF (plainFor_of_name pn_2) hisR ?_
  intro p e s m args below meth c s₁ Bd hml0 hP hK
  obtain ⟨rfl, hZ, hh⟩ := hP
  have hx := Bd.exec
  have hby := Bd.bytes
  have hml : c.maxLocals = 6 := hml0
  have hown : s.vm.findClass "com/example/bitsieve/bitsieve/filter/PositionsWrapPinLaw" = some m.cls := findClass_of_methodNamed Bd.named
  have hnm := (name_of_methodNamed Bd.named Bd.method).1
  have X0 : Stand p l e room_1 s m #[(.long q0)] below meth c s₁ [] 0 0 := Stand.of_body Bd
  have e0 : s₁.heap = h0 := by rw [← hh, Bd.state]; rfl
  have N0 := Fr.nil n0
  have pre0 : ∀ t, Steps p.tables e below (s₁.setTop (mkF m 0 #[.val (.long q0), .second, .unset, .unset, .unset, .unset] [])) t → Steps p.tables e below (s₁.setTop (entryFrame m #[(.long q0)] maxLocals)) t := fun t k => castTop (ef_0 m q0) k
  obtain ⟨bits, hbits, pre2⟩ : ∃ bits : Int64, bits = (if q0 = (0 : Int64) then 1 else q0) ∧ ∀ t, Steps p.tables e below (s₁.setTop (mkF m 11 #[.val (.long q0), .second, .unset, .unset, .unset, .unset] [(.long bits)])) t → Steps p.tables e below (s₁.setTop (entryFrame m #[(.long q0)] maxLocals)) t := by
    have pre1 : ∀ t, Steps p.tables e below (s₁.setTop (mkF m 3 #[.val (.long q0), .second, .unset, .unset, .unset, .unset] [(.int (lcmpW q0 (0 : Int64)))])) t → Steps p.tables e below (s₁.setTop (entryFrame m #[(.long q0)] maxLocals)) t := fun t kt => pre0 t (by
        show Steps p.tables e below (s₁.setTop (mkF m 0 #[.val (.long q0), .second, .unset, .unset, .unset, .unset] [])) _
        refine XS.lloadN X0.here hx rfl (hb hby at_0) rfl ?_
        show Steps p.tables e below (s₁.setTop (mkF m 1 #[.val (.long q0), .second, .unset, .unset, .unset, .unset] [(.long q0)])) _
        refine XS.lconst X0.here hx rfl (hb hby at_1) ?_
        show Steps p.tables e below (s₁.setTop (mkF m 2 #[.val (.long q0), .second, .unset, .unset, .unset, .unset] [(.long (0 : Int64)), (.long q0)])) _
        refine XS.lcmp X0.here hx rfl (hb hby at_2) rfl ?_
        exact kt)
    by_cases hc3 : q0 = (0 : Int64)
    · exact ⟨(1 : Int64), (by rw [if_pos hc3]), fun t kt => pre1 t (by
          show Steps p.tables e below (s₁.setTop (mkF m 3 #[.val (.long q0), .second, .unset, .unset, .unset, .unset] [(.int (lcmpW q0 (0 : Int64)))])) _
          refine XS.ifNo X0.here hx rfl (hb hby at_3) rfl ((if0 _ _).trans (teq (show (lcmpW q0 (0 : Int64)) = (0 : Int32) from ((lw_eq _ _).mpr hc3))).2) ?_
          show Steps p.tables e below (s₁.setTop (mkF m 6 #[.val (.long q0), .second, .unset, .unset, .unset, .unset] [])) _
          refine XS.lconst X0.here hx rfl (hb hby at_6) ?_
          show Steps p.tables e below (s₁.setTop (mkF m 7 #[.val (.long q0), .second, .unset, .unset, .unset, .unset] [(.long (1 : Int64))])) _
          refine XS.goto X0.here hx rfl (pc0 := 7) (pc' := 11) rfl (hb hby at_7) (by decide) (by decide) ?_
          exact kt)⟩
    · exact ⟨q0, (by rw [if_neg hc3]), fun t kt => pre1 t (by
          show Steps p.tables e below (s₁.setTop (mkF m 3 #[.val (.long q0), .second, .unset, .unset, .unset, .unset] [(.int (lcmpW q0 (0 : Int64)))])) _
          refine XS.ifYes X0.here hx rfl (pc0 := 3) (pc' := 10) rfl (hb hby at_3) rfl ((if0 _ _).trans (feq (show ¬ ((lcmpW q0 (0 : Int64)) = (0 : Int32)) from (fun q => hc3 ((lw_eq _ _).mp q)))).2) (by decide) (by decide) ?_
          show Steps p.tables e below (s₁.setTop (mkF m 10 #[.val (.long q0), .second, .unset, .unset, .unset, .unset] [])) _
          refine XS.lloadN X0.here hx rfl (hb hby at_10) rfl ?_
          exact kt)⟩
  have hnz : bits ≠ 0 := by rw [hbits]; exact own_bits q0
  obtain ⟨_, _, ⟨T3, L3, k3, n3⟩, -, X3, ⟨Lc3, hQ3, l3, y3, z3⟩, st3⟩ := Jvm.LawKit.callS X0 hx (y := (⟨"com/example/bitsieve/bitsieve/filter/Positions", "wrap", "(J)J"⟩ : MethodName)) hown (mvT hZ (hw _ (List.mem_of_getElem? (i := 0) rfl))) (mvT hZ (hw _ (List.mem_of_getElem? (i := 1) rfl))) (mvT hZ (hw _ (List.mem_of_getElem? (i := 2) rfl))) (mvT hZ (hw _ (List.mem_of_getElem? (i := 3) rfl))) (by decide) (backOf (W := 0) (rm1 l Z a0 hw [] bits h0 n0 Z0 hnz) hZ (hw _ (List.mem_of_getElem? (i := 3) rfl)) (hw _ (List.mem_of_getElem? (i := 2) rfl)) (by decide) (by decide)) (g := (mkF m 13 #[.val (.long q0), .second, .val (.long bits), .second, .unset, .unset] [(.long bits)])) rfl (by rw [hml]; rfl) (argsL := [(.long bits)]) (rest := []) (lenOf pd_1 rfl) rfl (by show 2 * 0 + _ ≤ _; exact Nat.le_of_eq rfl) (hb hby at_13) (fun _ _ => ⟨rfl, e0, (by decide : 0 + 0 ≤ _), (by decide : 0 + 0 ≤ _)⟩)
  dsimp only [Pt.U, Pt.locs, Pt.cells, Pt.slots] at X3 l3 y3 z3 st3 hQ3
  subst l3 y3 z3
  obtain ⟨rfl, N3q, e3⟩ := hQ3
  have N3 := Fr.app N0 N3q
  obtain ⟨_, _, ⟨T4, L4, k4, n4⟩, -, X4, ⟨Lc4, hQ4, l4, y4, z4⟩, st4⟩ := Jvm.LawKit.callS X3 hx (y := (⟨"com/example/bitsieve/bitsieve/filter/PositionsWrapPinLaw", "reference", "(J)J"⟩ : MethodName)) hown (mvT hZ (hw _ (List.mem_of_getElem? (i := 10) rfl))) (mvT hZ (hw _ (List.mem_of_getElem? (i := 11) rfl))) (mvT hZ (hw _ (List.mem_of_getElem? (i := 12) rfl))) (mvT hZ (hw _ (List.mem_of_getElem? (i := 13) rfl))) (by decide) (backOf (W := 2) (rm3 l Z a0 hw [] bits h0 n0 Z0 hnz) hZ (hw _ (List.mem_of_getElem? (i := 13) rfl)) (hw _ (List.mem_of_getElem? (i := 12) rfl)) (by decide) (by decide)) (g := (mkF m 21 #[.val (.long q0), .second, .val (.long bits), .second, .val (.long (wrapV bits)), .second] [(.long bits), (.long (wrapV bits))])) rfl (by rw [hml]; rfl) (argsL := [(.long bits)]) (rest := [(.long (wrapV bits))]) (lenOf pd_1 rfl) rfl (by show 2 * 0 + _ ≤ _; exact Nat.le_of_eq rfl) (hb hby at_21) (fun _ _ => ⟨rfl, e3, (by decide : 0 + 0 ≤ _), (by decide : 0 + 0 ≤ _)⟩)
  dsimp only [Pt.U, Pt.locs, Pt.cells, Pt.slots] at X4 l4 y4 z4 st4 hQ4
  subst l4 y4 z4
  obtain ⟨rfl, N4q, e4⟩ := hQ4
  have N4 := Fr.app N3 N4q
  obtain ⟨fs, hr, hrun, hended, hW, hsame⟩ := X4.leave (v := some (.int (1 : Int32))) (fun h => by rw [Bd.returns] at h; cases h)
  refine ⟨_, _, pre2 _ ?_, hrun, hended, _, _, rfl, ?_, ⟨_, rfl⟩, hW, hsame.mono (by decide) (by decide)⟩
  · show Steps p.tables e below (s₁.setTop (mkF m 11 #[.val (.long q0), .second, .unset, .unset, .unset, .unset] [(.long bits)])) _
    refine XS.lstoreN X0.here hx rfl (hb hby at_11) rfl (l' := #[.val (.long q0), .second, .val (.long bits), .second, .unset, .unset]) rfl ?_
    show Steps p.tables e below (s₁.setTop (mkF m 12 #[.val (.long q0), .second, .val (.long bits), .second, .unset, .unset] [])) _
    refine XS.lloadN X0.here hx rfl (hb hby at_12) rfl ?_
    show Steps p.tables e below (s₁.setTop (mkF m 13 #[.val (.long q0), .second, .val (.long bits), .second, .unset, .unset] [(.long bits)])) _
    refine st3 _ ?_
    show Steps p.tables e below (T3.setTop (mkF m 16 #[.val (.long q0), .second, .val (.long bits), .second, .unset, .unset] [(.long (wrapV bits))])) _
    refine XS.lstore X3.here hx rfl (hb hby at_16) rfl (l' := #[.val (.long q0), .second, .val (.long bits), .second, .val (.long (wrapV bits)), .second]) rfl ?_
    show Steps p.tables e below (T3.setTop (mkF m 18 #[.val (.long q0), .second, .val (.long bits), .second, .val (.long (wrapV bits)), .second] [])) _
    refine XS.lload X3.here hx rfl (hb hby at_18) rfl ?_
    show Steps p.tables e below (T3.setTop (mkF m 20 #[.val (.long q0), .second, .val (.long bits), .second, .val (.long (wrapV bits)), .second] [(.long (wrapV bits))])) _
    refine XS.lloadN X3.here hx rfl (hb hby at_20) rfl ?_
    show Steps p.tables e below (T3.setTop (mkF m 21 #[.val (.long q0), .second, .val (.long bits), .second, .val (.long (wrapV bits)), .second] [(.long bits), (.long (wrapV bits))])) _
    refine st4 _ ?_
    show Steps p.tables e below (T4.setTop (mkF m 24 #[.val (.long q0), .second, .val (.long bits), .second, .val (.long (wrapV bits)), .second] [(.long (refV bits)), (.long (wrapV bits))])) _
    refine XS.lcmp X4.here hx rfl (hb hby at_24) rfl ?_
    show Steps p.tables e below (T4.setTop (mkF m 25 #[.val (.long q0), .second, .val (.long bits), .second, .val (.long (wrapV bits)), .second] [(.int (lcmpW (wrapV bits) (refV bits)))])) _
    refine XS.ifNo X4.here hx rfl (hb hby at_25) rfl ((if0 _ _).trans (teq (show (lcmpW (wrapV bits) (refV bits)) = (0 : Int32) from ((lw_eq _ _).mpr (own_law bits hnz)))).2) ?_
    show Steps p.tables e below (T4.setTop (mkF m 28 #[.val (.long q0), .second, .val (.long bits), .second, .val (.long (wrapV bits)), .second] [])) _
    refine XS.iconst X4.here hx rfl (hb hby at_28) ?_
    show Steps p.tables e below (T4.setTop (mkF m 29 #[.val (.long q0), .second, .val (.long bits), .second, .val (.long (wrapV bits)), .second] [(.int (1 : Int32))])) _
    refine XS.goto X4.here hx rfl (pc0 := 29) (pc' := 33) rfl (hb hby at_29) (by decide) (by decide) ?_
    show Steps p.tables e below (T4.setTop (mkF m 33 #[.val (.long q0), .second, .val (.long bits), .second, .val (.long (wrapV bits)), .second] [(.int (1 : Int32))])) _
    exact retN X4 hx (t := .boolean) Bd.returns (by simp) (hb hby at_33) hr
  · show Q0 h0 n0 _ T4.heap _
    rw [e4]
    exact ⟨rfl, N4⟩
set_option maxRecDepth 65536 in
set_option maxHeartbeats 40000000 in
theorem comes_1 {Post : Tables → Env → Array Value → State → Outcome → State → Prop} (hpost : ∀ tb e args s v u, (limb_1_1.after args s (.returned v) u = true ∧ limb_1_2.after args s (.returned v) u = true ∧ True) → FrameEnd s (.returned v) u (Jvm.fieldLocs frame_1_writes args s ++ Jvm.arrayLocs frame_1_arrays args s ++ Jvm.staticLocs frame_1_statics s) 0 0 → Post tb e args s (.returned v) u) :
    ArmFor flags0 classFile x code maxLocals ret World_1 tables_1 room_1 Calls_1 rest_1 Pre_1 Post := by
  intro l hfl _ _ p e ha hc hk s m args below hf hA hF happ hP
  obtain ⟨hcalls, hrest, hpre⟩ := hP
  obtain ⟨-, -, -, hnamed, -, -, -, hat⟩ := (Spec.applies_iff hf).mp happ
  obtain ⟨hg, hn⟩ := and_e (Cond.before_iff.mp (show (Jvm.Cond.and given_1 narrow_1).before args s = true from hpre))
  obtain ⟨hcnt, hg1⟩ := and_e hg
  have ha0 := hg1
  obtain ⟨w0, rfl⟩ : ∃ w0 : Value, args = #[w0] := by
    have hs : args.size = 1 := by simpa [Cond.value, given_1] using hcnt
    obtain ⟨L⟩ := args
    match L, hs with
    | [w0], _ => exact ⟨w0, rfl⟩
  have hw := fun d (hd : d ∈ tables_1) => atoms_spec (ws := Jvm.Cond.code x code maxLocals ret :: tables_1) hat d (List.mem_cons_of_mem _ hd)
  have hfit : Fit s := fun {y c} hc i hi => by
    obtain ⟨ha, rfl⟩ := Array.getElem?_eq_some_iff.mp hc
    have q := List.all_eq_true.mp ((Array.all_eq_true_iff_forall_mem.mp hF) _ (Array.getElem_mem ha)) i (List.mem_range.mpr hi)
    simpa [Array.getElem?_eq_getElem hi] using q
  obtain ⟨i0, ei0⟩ := isL_v ha0
  obtain rfl : w0 = (.long i0) := Option.some.inj ei0
  obtain ⟨n, o, h1, h2, h3, _, L, rfl, ⟨rfl, N⟩, hq⟩ := rm0 l s _ hw tables_1 i0 s.heap s.heap.size (Nat.le_refl _) p e ha hc hk s m _ below hf ((Spec.applies_iff_loose hf).mp happ).1 ⟨rfl, State.Warmed39.refl s, rfl⟩ trivial
  refine ⟨n, _, h1, h2, h3, hpost _ _ _ _ _ _ ⟨Cond.after_iff.mpr rfl, Cond.after_iff.mpr (eq_i res_at (Term.int_eval (1)) rfl), trivial⟩ ⟨hq.1, hq.2.1, (hq.2.2.sift fun y hy => Or.inr (N y hy)).mono (by decide) (by decide)⟩⟩
theorem main_1_1 : Claimed_1_1 := comes_1 fun _ _ _ _ _ _ h hF => ⟨h.1, hF⟩
theorem main_1_2 : Claimed_1_2 := comes_1 fun _ _ _ _ _ _ h hF => ⟨h.2.1, hF⟩
end Jvm.Pilot.@@N@@
namespace Jvm.Pilot.@@N@@
open Jvm Jvm.ClassFile Sem Op Lib Jvm.Free Jvm.Stand Jvm.Pilot.@@N@@.Jvm.D
/-! MADE BY PROGRAM (witnessworld.py) out of the Statement's table words and the real class files: 14 classes; the members and pool entries that the words name. The judged class is class 1, her method 1. -/
namespace start1
open Jvm.ClassFile
def u (s : String) : CpInfo := .utf8 (stringToUtf16 s)
/-- a pool by its gaps: so many unusable entries, then the entry; so many at the end -/
def gap : Nat → List CpInfo → List CpInfo
  | 0, r => r
  | n + 1, r => .unusable :: gap n r
def poolList (es : List (Nat × CpInfo)) (last : Nat) : List CpInfo := es.foldr (fun e r => gap e.1 (e.2 :: r)) (gap last [])
def pool (es : List (Nat × CpInfo)) (last : Nat) : Array CpInfo := ⟨poolList es last⟩
def fileOf (pool : Array CpInfo) (this : Nat) (attrs : Array Attribute := #[]) (ms : Array MethodInfo := #[]) (fl : Nat := 33) (sup : Nat := 0) (ifs : Array Nat := #[]) (fds : Array FieldInfo := #[]) : ClassFile where
  minorVersion := 0
  majorVersion := 65
  constantPool := pool
  accessFlags := fl
  thisClass := this
  superClass := sup
  interfaces := ifs
  fields := fds
  methods := ms
  attributes := attrs
def plain (name : String) (sup : Option ClassId) : Class where
  name := name
  kind := .ordinary
  loader := none
  accessFlags := 33
  super := sup
  interfaces := #[]
  cf := none
  fields := #[]
  methods := #[]
  instanceTypes := #[]
  staticTypes := #[]
  resolved := #[]
  callSites := []
  init := .initialized
  statics := none
  mirror := none

def pool0 : Array CpInfo := pool [(5, u "<init>"), (0, u "()V"), (1, .class_ 10), (1, u "java/lang/Object")] 113

def k0m0 : Method := { name := "<init>", desc := "()V", sig := { parameters := [], returnType := none }, accessFlags := 1, code := none }
/-- java/lang/Object -/
def k0 : Class := { plain "java/lang/Object" none with
  accessFlags := 33
  interfaces := #[]
  cf := some (fileOf pool0 8 #[] #[{ accessFlags := 1, nameIndex := 5, descriptorIndex := 6, attributes := #[] }] 33 0 #[] #[])
  fields := #[]
  methods := #[k0m0]
  instanceTypes := #[]
  staticTypes := #[]
  resolved := Array.replicate 124 none
  statics := none }

def pool1 : Array CpInfo := pool [(2, .class_ 4), (1, u "java/lang/Object"), (0, u "<init>"), (0, u "()V"), (0, .methodref 8 9), (0, .class_ 10), (0, .nameAndType 11 12), (0, u "com/example/bitsieve/bitsieve/filter/Positions"), (0, u "wrap"), (0, u "(J)J"), (0, .methodref 14 15), (0, .class_ 16), (0, .nameAndType 17 12), (0, u "com/example/bitsieve/bitsieve/filter/PositionsWrapPinLaw"), (0, u "reference"), (2, .long 9223372036854775808), (1, .long 9223372036854775807), (3, u "law"), (0, u "(J)Z")] 3

def k1m0 : Method := { name := "<init>", desc := "()V", sig := { parameters := [], returnType := none }, accessFlags := 2, code := none }
def k1c1 : Code := { maxStack := 4, maxLocals := 6, code := code, exceptionTable := #[], attributes := #[] }
def k1m1 : Method := { name := "law", desc := "(J)Z", sig := { parameters := [.long], returnType := some .boolean }, accessFlags := 9, code := some k1c1 }
def k1c2 : Code := { maxStack := 4, maxLocals := 6, code := method_3_code, exceptionTable := #[], attributes := #[] }
def k1m2 : Method := { name := "reference", desc := "(J)J", sig := { parameters := [.long], returnType := some .long }, accessFlags := 10, code := some k1c2 }
/-- com/example/bitsieve/bitsieve/filter/PositionsWrapPinLaw -/
def k1 : Class := { plain "com/example/bitsieve/bitsieve/filter/PositionsWrapPinLaw" (some 0) with
  accessFlags := 49
  interfaces := #[]
  cf := some (fileOf pool1 14 #[] #[{ accessFlags := 2, nameIndex := 5, descriptorIndex := 6, attributes := #[] }, { accessFlags := 9, nameIndex := 26, descriptorIndex := 27, attributes := #[] }, { accessFlags := 10, nameIndex := 17, descriptorIndex := 12, attributes := #[] }] 49 2 #[] #[])
  fields := #[]
  methods := #[k1m0, k1m1, k1m2]
  instanceTypes := #[]
  staticTypes := #[]
  resolved := Array.replicate 31 none
  statics := none }

def pool2 : Array CpInfo := pool [(2, .class_ 4), (1, u "java/lang/Object"), (9, .class_ 16), (1, u "com/example/bitsieve/bitsieve/filter/Positions"), (0, u "bits"), (0, u "J"), (2, u "h1"), (2, u "h2"), (0, .methodref 26 27), (0, .class_ 28), (0, .nameAndType 29 30), (0, u "java/lang/Long"), (0, u "remainderUnsigned"), (0, u "(JJ)J"), (2, u "first"), (2, u "back"), (5, u "wrapToggle"), (3, .long 18446744073709551615), (3, u "position"), (2, u "sum"), (3, u "wrap"), (0, u "(J)J")] 5

def k2c0 : Code := { maxStack := 4, maxLocals := 4, code := prog_23_method_2_code, exceptionTable := #[], attributes := #[] }
def k2m0 : Method := { name := "wrap", desc := "(J)J", sig := { parameters := [.long], returnType := some .long }, accessFlags := 8, code := some k2c0 }
/-- com/example/bitsieve/bitsieve/filter/Positions -/
def k2 : Class := { plain "com/example/bitsieve/bitsieve/filter/Positions" (some 0) with
  accessFlags := 48
  interfaces := #[]
  cf := some (fileOf pool2 14 #[] #[{ accessFlags := 8, nameIndex := 57, descriptorIndex := 58, attributes := #[] }] 48 2 #[] #[{ accessFlags := 18, nameIndex := 17, descriptorIndex := 18, attributes := #[] }, { accessFlags := 18, nameIndex := 21, descriptorIndex := 18, attributes := #[] }, { accessFlags := 18, nameIndex := 24, descriptorIndex := 18, attributes := #[] }, { accessFlags := 18, nameIndex := 33, descriptorIndex := 18, attributes := #[] }, { accessFlags := 18, nameIndex := 36, descriptorIndex := 18, attributes := #[] }, { accessFlags := 18, nameIndex := 42, descriptorIndex := 18, attributes := #[] }, { accessFlags := 2, nameIndex := 53, descriptorIndex := 18, attributes := #[] }, { accessFlags := 2, nameIndex := 50, descriptorIndex := 18, attributes := #[] }])
  fields := #[{ name := "bits", type := .long, accessFlags := 18, slot := 0, constantValue := 0 }, { name := "h1", type := .long, accessFlags := 18, slot := 1, constantValue := 0 }, { name := "h2", type := .long, accessFlags := 18, slot := 2, constantValue := 0 }, { name := "first", type := .long, accessFlags := 18, slot := 3, constantValue := 0 }, { name := "back", type := .long, accessFlags := 18, slot := 4, constantValue := 0 }, { name := "wrapToggle", type := .long, accessFlags := 18, slot := 5, constantValue := 0 }, { name := "sum", type := .long, accessFlags := 2, slot := 6, constantValue := 0 }, { name := "position", type := .long, accessFlags := 2, slot := 7, constantValue := 0 }]
  methods := #[k2m0]
  instanceTypes := #[.long, .long, .long, .long, .long, .long, .long, .long]
  staticTypes := #[]
  resolved := Array.replicate 64 none
  statics := none }

def pool3 : Array CpInfo := pool [(1, .class_ 2), (0, u "java/io/Serializable"), (0, .class_ 4), (0, u "java/lang/Object")] 2

/-- java/io/Serializable -/
def k3 : Class := { plain "java/io/Serializable" (some 0) with
  accessFlags := 1537
  interfaces := #[]
  cf := some (fileOf pool3 1 #[] #[] 1537 3 #[] #[])
  fields := #[]
  methods := #[]
  instanceTypes := #[]
  staticTypes := #[]
  resolved := Array.replicate 7 none
  statics := none }

def pool4 : Array CpInfo := pool [(2, .class_ 4), (1, u "java/lang/Object"), (0, u "<init>"), (0, u "()V"), (1, .class_ 10), (1, u "java/lang/Number"), (2, .class_ 14), (0, u "java/io/Serializable"), (0, u "serialVersionUID"), (0, u "J")] 20

def k4m0 : Method := { name := "<init>", desc := "()V", sig := { parameters := [], returnType := none }, accessFlags := 1, code := none }
/-- java/lang/Number -/
def k4 : Class := { plain "java/lang/Number" (some 0) with
  accessFlags := 1057
  interfaces := #[3]
  cf := some (fileOf pool4 8 #[] #[{ accessFlags := 1, nameIndex := 5, descriptorIndex := 6, attributes := #[] }] 1057 2 #[13] #[{ accessFlags := 26, nameIndex := 15, descriptorIndex := 16, attributes := #[] }])
  fields := #[{ name := "serialVersionUID", type := .long, accessFlags := 26, slot := 0, constantValue := 0 }]
  methods := #[k4m0]
  instanceTypes := #[]
  staticTypes := #[.long]
  resolved := Array.replicate 37 none
  statics := none }

def pool5 : Array CpInfo := pool [(1, .class_ 2), (0, u "java/lang/Comparable"), (0, .class_ 4), (0, u "java/lang/Object")] 7

/-- java/lang/Comparable -/
def k5 : Class := { plain "java/lang/Comparable" (some 0) with
  accessFlags := 1537
  interfaces := #[]
  cf := some (fileOf pool5 1 #[] #[] 1537 3 #[] #[])
  fields := #[]
  methods := #[]
  instanceTypes := #[]
  staticTypes := #[]
  resolved := Array.replicate 12 none
  statics := none }

def pool6 : Array CpInfo := pool [(1, .class_ 2), (0, u "java/lang/constant/Constable"), (0, .class_ 4), (0, u "java/lang/Object")] 6

/-- java/lang/constant/Constable -/
def k6 : Class := { plain "java/lang/constant/Constable" (some 0) with
  accessFlags := 1537
  interfaces := #[]
  cf := some (fileOf pool6 1 #[] #[] 1537 3 #[] #[])
  fields := #[]
  methods := #[]
  instanceTypes := #[]
  staticTypes := #[]
  resolved := Array.replicate 11 none
  statics := none }

def pool7 : Array CpInfo := pool [(1, .class_ 2), (0, u "java/lang/constant/ConstantDesc"), (0, .class_ 4), (0, u "java/lang/Object")] 32

/-- java/lang/constant/ConstantDesc -/
def k7 : Class := { plain "java/lang/constant/ConstantDesc" (some 0) with
  accessFlags := 1537
  interfaces := #[]
  cf := some (fileOf pool7 1 #[] #[] 1537 3 #[] #[])
  fields := #[]
  methods := #[]
  instanceTypes := #[]
  staticTypes := #[]
  resolved := Array.replicate 37 none
  statics := none }

def pool8 : Array CpInfo := pool [(1, .class_ 2), (0, u "java/lang/Long"), (232, .class_ 237), (1, u "java/lang/Long$LongCache"), (33, .class_ 272), (0, u "java/lang/Number"), (2, u "value"), (0, u "J"), (29, .long 18446744073709551615), (26, u "(JJ)J"), (27, u "TYPE"), (0, u "Ljava/lang/Class;"), (0, .class_ 364), (0, u "java/lang/Comparable"), (0, .class_ 366), (0, u "java/lang/constant/Constable"), (0, .class_ 368), (0, u "java/lang/constant/ConstantDesc"), (0, u "MIN_VALUE"), (1, u "MAX_VALUE"), (4, u "SIZE"), (0, u "I"), (1, u "BYTES"), (1, u "serialVersionUID"), (91, u "remainderUnsigned")] 50

def k8c0 : Code := { maxStack := 8, maxLocals := 8, code := jdk_35_method_45_code, exceptionTable := #[], attributes := #[] }
def k8m0 : Method := { name := "remainderUnsigned", desc := "(JJ)J", sig := { parameters := [.long, .long], returnType := some .long }, accessFlags := 9, code := some k8c0 }
/-- java/lang/Long -/
def k8 : Class := { plain "java/lang/Long" (some 4) with
  accessFlags := 49
  interfaces := #[5, 6, 7]
  cf := some (fileOf pool8 1 #[.nestMembers #[235]] #[{ accessFlags := 9, nameIndex := 473, descriptorIndex := 333, attributes := #[] }] 49 271 #[363, 365, 367] #[{ accessFlags := 25, nameIndex := 369, descriptorIndex := 276, attributes := #[] }, { accessFlags := 25, nameIndex := 371, descriptorIndex := 276, attributes := #[] }, { accessFlags := 25, nameIndex := 361, descriptorIndex := 362, attributes := #[] }, { accessFlags := 18, nameIndex := 275, descriptorIndex := 276, attributes := #[] }, { accessFlags := 25, nameIndex := 376, descriptorIndex := 377, attributes := #[] }, { accessFlags := 25, nameIndex := 379, descriptorIndex := 377, attributes := #[] }, { accessFlags := 26, nameIndex := 381, descriptorIndex := 276, attributes := #[] }])
  fields := #[{ name := "MIN_VALUE", type := .long, accessFlags := 25, slot := 0, constantValue := 0 }, { name := "MAX_VALUE", type := .long, accessFlags := 25, slot := 1, constantValue := 0 }, { name := "TYPE", type := (.object "java/lang/Class"), accessFlags := 25, slot := 2, constantValue := 0 }, { name := "value", type := .long, accessFlags := 18, slot := 0, constantValue := 0 }, { name := "SIZE", type := .int, accessFlags := 25, slot := 3, constantValue := 0 }, { name := "BYTES", type := .int, accessFlags := 25, slot := 4, constantValue := 0 }, { name := "serialVersionUID", type := .long, accessFlags := 26, slot := 5, constantValue := 0 }]
  methods := #[k8m0]
  instanceTypes := #[.long]
  staticTypes := #[.long, .long, (.object "java/lang/Class"), .int, .int, .long]
  resolved := Array.replicate 524 none
  statics := none }

def pool9 : Array CpInfo := pool [(1, u "java/lang/Cloneable"), (0, .class_ 1), (0, u "java/lang/Object"), (0, .class_ 3)] 3

/-- java/lang/Cloneable -/
def k9 : Class := { plain "java/lang/Cloneable" (some 0) with
  accessFlags := 1537
  interfaces := #[]
  cf := some (fileOf pool9 2 #[] #[] 1537 4 #[] #[])
  fields := #[]
  methods := #[]
  instanceTypes := #[]
  staticTypes := #[]
  resolved := Array.replicate 8 none
  statics := none }

/-- the primitive byte -/
def k10 : Class := { plain "byte" none with kind := .primitive 'B', accessFlags := 0x411 }
/-- [B -/
def k11 : Class := { plain "[B" (some 0) with kind := .array 10 .byte, interfaces := #[9, 3], accessFlags := 1041 }

/-- the primitive int -/
def k12 : Class := { plain "int" none with kind := .primitive 'I', accessFlags := 0x411 }
/-- [I -/
def k13 : Class := { plain "[I" (some 0) with kind := .array 12 .int, interfaces := #[9, 3], accessFlags := 1041 }

def heap : Heap := #[]
def classes : Array Class := #[k0, k1, k2, k3, k4, k5, k6, k7, k8, k9, k10, k11, k12, k13]
def interned : List (Array UInt16 × Addr) := []
def slotsUsed : Nat := 0
def theMethod : MethodId := ⟨1, 1⟩
def args0 : Array Value := #[.long 5]
def aboutOver (below : List Frame) : State where
  vm := { classes := classes, interned := interned.toArray }
  heap := heap
  slotsUsed := slotsUsed
  threads := #[{ frames := .invoking theMethod args0 :: below }]
def below0 : List Frame := [.native { method := ⟨0, 0⟩, args := #[] }]
def about1 : State := aboutOver below0
def p0 : Program := .bare "" "" ""
def e0 : Env := launch0.env 0 0 0
theorem w_frames : about1.frames = Frame.invoking theMethod args0 :: below0 := rfl
set_option maxRecDepth 65536 in
theorem w_args : argsFit about1.vm theMethod args0 = true := by decide +kernel
set_option maxRecDepth 65536 in
theorem w_heap : heapFits about1 = true := by decide +kernel
set_option maxRecDepth 65536 in
theorem w_runnable : about1.curStatus? = some .runnable := by decide +kernel
set_option maxRecDepth 65536 in
theorem w_alone : about1.alone = true := by decide +kernel
set_option maxRecDepth 65536 in
theorem w_named : about1.methodNamed? x = some theMethod := by decide +kernel
set_option maxRecDepth 65536 in
theorem w_hears : about1.hears theMethod below0 = true := by decide +kernel
set_option maxRecDepth 65536 in
theorem w_ripe : about1.ripe theMethod args0 below0 = true := by decide +kernel
theorem w_running : about1.status = .running := rfl
set_option maxRecDepth 65536 in
theorem w_room : about1.hasRoom e0.platform room_1 = true :=
  launch0.hasRoom_least _ room_1 (by decide +kernel) (by decide +kernel) (by decide +kernel) (by decide +kernel) (by decide +kernel) (by decide +kernel)
theorem allAtoms_all (ts : List Jvm.Cond) (a : Array Jvm.Value) (st : Jvm.State) : (allAtoms ts).before a st = ts.all (fun c => c.before a st) := by
  induction ts with
  | nil => rfl
  | cons c t ih =>
    show (Jvm.Cond.and c (allAtoms t)).before a st = _
    rw [Jvm.Cond.before_and, ih, List.all_cons]
def words1 : List Jvm.Cond := Jvm.Cond.code x code maxLocals ret :: tables_1
/-- a 'code' word, met by the world's own term for the bytes: nothing is compared byte by byte -/
theorem code_word {y : MethodName} {bytes : ByteArray} {mx : Nat} {rt : Option FieldType} {a : Array Value} {s : State} {m : MethodId} {meth : Method} {c : Code} (h1 : s.methodNamed? y = some m) (h2 : s.vm.method? m = some meth) (h3 : meth.code = some c) (h4 : c.code = bytes)
    (h5 : (c.maxLocals == mx && c.exceptionTable.isEmpty && decide (c.maxStack ≤ mostOperands) && decide (meth.sig.returnType = rt) && !meth.locks && decide (parseMethodDescriptor y.desc = some meth.sig)) = true) : (Jvm.Cond.code y bytes mx rt).before a s = true := by
  simp only [Bool.and_eq_true, beq_iff_eq, Bool.not_eq_true', decide_eq_true_eq] at h5
  obtain ⟨⟨⟨⟨⟨g1, g2⟩, g3⟩, g4⟩, g5⟩, g6⟩ := h5
  simp [Cond.before, Cond.holds, Cond.value, h1, h2, h3, h4, g1, g2, g3, g4, g5, g6]
def isCode : Jvm.Cond → Bool
  | .code _ _ _ _ => true
  | _ => false
theorem all_split {L : List Jvm.Cond} {P : Jvm.Cond → Bool} (h1 : L.all (fun c => isCode c || P c) = true) (h2 : ∀ c ∈ L.filter isCode, P c = true) : L.all P = true := by
  refine List.all_eq_true.mpr fun c hc => ?_
  have h := List.all_eq_true.mp h1 c hc
  rcases Bool.eq_false_or_eq_true (isCode c) with hi | hi
  · exact h2 c (List.mem_filter.mpr ⟨hc, hi⟩)
  · simpa [hi] using h
set_option maxRecDepth 65536 in
theorem w_c0 : (Jvm.Cond.code x code maxLocals ret).before args0 about1 = true := code_word (m := ⟨1, 1⟩) (meth := k1m1) (c := k1c1) (by decide +kernel) rfl rfl rfl (by decide +kernel)
set_option maxRecDepth 65536 in
theorem w_c1 : (Jvm.Cond.code ({ cls := "com/example/bitsieve/bitsieve/filter/Positions", name := "wrap", desc := "(J)J" } : Jvm.MethodName) prog_23_method_2_code (4 : Nat) (Option.some Jvm.ClassFile.FieldType.long)).before args0 about1 = true := code_word (m := ⟨2, 0⟩) (meth := k2m0) (c := k2c0) (by decide +kernel) rfl rfl rfl (by decide +kernel)
set_option maxRecDepth 65536 in
theorem w_c2 : (Jvm.Cond.code ({ cls := "java/lang/Long", name := "remainderUnsigned", desc := "(JJ)J" } : Jvm.MethodName) jdk_35_method_45_code (8 : Nat) (Option.some Jvm.ClassFile.FieldType.long)).before args0 about1 = true := code_word (m := ⟨8, 0⟩) (meth := k8m0) (c := k8c0) (by decide +kernel) rfl rfl rfl (by decide +kernel)
set_option maxRecDepth 65536 in
theorem w_c3 : (Jvm.Cond.code ({ cls := "com/example/bitsieve/bitsieve/filter/PositionsWrapPinLaw", name := "reference", desc := "(J)J" } : Jvm.MethodName) method_3_code (6 : Nat) (Option.some Jvm.ClassFile.FieldType.long)).before args0 about1 = true := code_word (m := ⟨1, 2⟩) (meth := k1m2) (c := k1c2) (by decide +kernel) rfl rfl rfl (by decide +kernel)
def codes1 : List Jvm.Cond := [Jvm.Cond.code x code maxLocals ret, Jvm.Cond.code ({ cls := "com/example/bitsieve/bitsieve/filter/Positions", name := "wrap", desc := "(J)J" } : Jvm.MethodName) prog_23_method_2_code (4 : Nat) (Option.some Jvm.ClassFile.FieldType.long), Jvm.Cond.code ({ cls := "java/lang/Long", name := "remainderUnsigned", desc := "(JJ)J" } : Jvm.MethodName) jdk_35_method_45_code (8 : Nat) (Option.some Jvm.ClassFile.FieldType.long), Jvm.Cond.code ({ cls := "com/example/bitsieve/bitsieve/filter/PositionsWrapPinLaw", name := "reference", desc := "(J)J" } : Jvm.MethodName) method_3_code (6 : Nat) (Option.some Jvm.ClassFile.FieldType.long)]
set_option maxRecDepth 65536 in
theorem codes_eq : words1.filter isCode = codes1 := rfl
theorem w_codes : ∀ c ∈ words1.filter isCode, c.before args0 about1 = true := by
  rw [codes_eq]
  intro c hc
  simp only [codes1, List.mem_cons, List.not_mem_nil, or_false] at hc
  rcases hc with rfl | rfl | rfl | rfl
  · exact w_c0
  · exact w_c1
  · exact w_c2
  · exact w_c3
set_option maxRecDepth 65536 in
theorem w_t1 : words1.all (fun c => isCode c || c.before args0 about1) = true := by decide +kernel
theorem w_tables : (allAtoms (Jvm.Cond.code x code maxLocals ret :: tables_1)).before args0 about1 = true := by
  rw [allAtoms_all]
  show words1.all (fun c => c.before args0 about1) = true
  refine all_split ?_ w_codes
  rw [w_t1]
set_option maxRecDepth 65536 in
theorem w_case : (Jvm.Cond.and given_1 narrow_1).before args0 about1 = true := by decide +kernel
theorem w_applies : (headSpec (Jvm.Cond.code x code maxLocals ret :: tables_1) room_1).applies x e0.platform about1 = true :=
  (Spec.applies_iff w_frames).mpr ⟨w_running, w_runnable, w_alone, w_named, w_hears, w_ripe, w_room, w_tables⟩
theorem atStart : AtStart classFile x code maxLocals ret World_1 tables_1 room_1 Calls_1 rest_1 Pre_1 launch0 p0 e0 about1 theMethod args0 below0 :=
  ⟨lists_1, trivial, launch0.admits_env _ _ _, launch0.least_env, fairChoices_fair.cas, fairChoices_fair.clock, w_frames, w_args, w_heap, w_applies, trivial, trivial, w_case⟩
end start1
theorem witness_1 : WitnessClaimed_1 := ⟨start1.p0, start1.e0, start1.about1, start1.theMethod, start1.args0, start1.below0, start1.atStart⟩
end Jvm.Pilot.@@N@@
