import JvmDerived
import JvmDerived.Pilot.@@N@@Statement
import JvmDerived.Pilot.@@N@@Code
set_option linter.unusedVariables false
set_option linter.unusedSimpArgs false
namespace Jvm.RoadKit
open Sem ClassFile Op Lib Jvm.Stand Jvm.Free Jvm.LawKit
section New
variable {p : Program} {l : Launch} {e : Env} {R : Room} {s : State} {m : MethodId} {args : Array Value} {below : List Frame} {meth : Method} {c : Code} {T : State} {locs : List Loc} {cells slots : Nat}
theorem retI (X : Stand p l e R s m args below meth c T locs cells slots) (hx : p.tables.exec = Jvm.exec) {pc : Nat} {Ls : Array Slot} {z : Int32} {rest : List Value} (hret : meth.sig.returnType = some .int) (hd : decode c.code pc = .ok (.ireturn, 1)) {fs : List Frame}
    (hl : ∀ (f : JFrame) (acts : List Action), f.method = m → f.locked = none → f.entered = [] → (doReturn e (T.setTop f) acts (some (.int z))).1 = T.setFrames fs) : Steps p.tables e below (T.setTop (mkF m pc Ls (.int z :: rest))) (T.setFrames fs) := by
  have hm' : T.vm.method? m = some meth := X.method'
  have hn : narrow .int (.int z) = .int z := rfl
  show Steps p.tables e below (T.setTop { method := m, pc := pc, locals := Ls, stack := _ :: rest, locked := none }) _
  jvm_step X.here [X.here.top, hx, hd, hm', hret, hn]
  first | (intro acts; rw [hl _ acts rfl rfl rfl]) | rw [hl _ _ rfl rfl rfl]
  exact Steps.refl _
end New
end Jvm.RoadKit
namespace Jvm.Pilot.@@N@@
open Jvm Jvm.ClassFile Sem Op Lib Jvm.Free Jvm.Stand Jvm.LawKit Jvm.RoadKit Bundle Jvm.Pilot.@@N@@.Jvm.D
theorem own_rem (x y : Int32) (hx : 0 ≤ x.toInt) (hy : 0 < y.toInt) : (x - (x / y) * y).toInt = x.toInt % y.toInt := by
  have hx2 := x.toInt_lt
  have hy2 := y.toInt_lt
  have hd : (x / y).toInt = x.toInt / y.toInt := by
    rw [Int32.toInt_div, Int.tdiv_eq_ediv_of_nonneg hx]
    have h1 : 0 ≤ x.toInt / y.toInt := Int.ediv_nonneg hx (Int.le_of_lt hy)
    have h2 : x.toInt / y.toInt ≤ x.toInt := Int.ediv_le_self _ hx
    exact Int.bmod_eq_of_le (by omega) (by omega)
  have hm : ((x / y) * y).toInt = (x.toInt / y.toInt) * y.toInt := by
    rw [Int32.toInt_mul, hd]
    have h1 : 0 ≤ x.toInt / y.toInt * y.toInt := Int.mul_nonneg (Int.ediv_nonneg hx (Int.le_of_lt hy)) (Int.le_of_lt hy)
    have h2 := Int.ediv_mul_le x.toInt (Int.ne_of_gt hy)
    exact Int.bmod_eq_of_le (by omega) (by omega)
  have h3 := Int.emod_add_mul_ediv x.toInt y.toInt
  have h4 := Int.emod_nonneg x.toInt (Int.ne_of_gt hy)
  have h5 := Int.emod_lt_of_pos x.toInt hy
  rw [Int32.toInt_sub, hm]
  have h6 : x.toInt - x.toInt / y.toInt * y.toInt = x.toInt % y.toInt := by rw [Int.mul_comm (x.toInt / y.toInt)]; omega
  rw [h6]
  exact Int.bmod_eq_of_le (by omega) (by omega)
theorem own_and31 (p : Int32) : 0 ≤ (p &&& (2147483647 : Int32)).toInt := by
  have h : (p &&& (2147483647 : Int32)).toBitVec.toNat ≤ 2147483647 := by
    simp only [Int32.toBitVec_and, BitVec.toNat_and]
    exact Nat.and_le_right
  have e : (p &&& (2147483647 : Int32)).toInt = ((p &&& (2147483647 : Int32)).toBitVec.toNat : Int) := BitVec.toInt_eq_toNat_of_lt (by omega)
  omega
def shiftV (q : Int64) (b : Int32) : Int32 := (((q.toInt32) * b) &&& (63 : Int32))
def stepV (f : Int32) (r : Int64) (k : Int32) : Int64 := if f = (0 : Int32) then (r ||| ((r.toUInt64 >>> (k &&& 0x3f).toInt64.toUInt64).toInt64)) else (r &&& ((r.toUInt64 >>> (k &&& 0x3f).toInt64.toUInt64).toInt64))
def foldV (f : Int32) : Nat → Int64 → Int32 → Int64
  | 0, r, _ => r
  | n + 1, r, k => if (0 : Int32) < k then foldV f n (stepV f r k) (k / (2 : Int32)) else r
def testV (w pos : Int64) (b f : Int32) : Int64 := foldV f 31 ((w.toUInt64 >>> ((shiftV pos b) &&& 0x3f).toInt64.toUInt64).toInt64) (b / (2 : Int32))
def maskV (b : Int32) : Int64 := if b = (64 : Int32) then (-1 : Int64) else (((1 : Int64) <<< (b &&& 0x3f).toInt64) - (1 : Int64))
def expV (f : Int32) (x m : Int64) : Int32 := if f = (0 : Int32) then (if x = (0 : Int64) then 0 else 1) else (if x = m then 1 else 0)
def actV (r : Int64) : Int32 := if (r &&& (1 : Int64)) = (0 : Int64) then 0 else 1
theorem own_half (n : Nat) (k : Int32) (h0 : (0 : Int32) < k) (h : k.toInt < 2 ^ (n + 1)) : (k / (2 : Int32)).toInt < 2 ^ n := by
  rw [Int32.lt_iff_toInt_lt] at h0
  have h0' : 0 < k.toInt := h0
  have h1 := k.toInt_lt
  have e : (k / (2 : Int32)).toInt = k.toInt / 2 := by
    rw [Int32.toInt_div]
    show Int.bmod (k.toInt.tdiv 2) _ = _
    rw [Int.tdiv_eq_ediv_of_nonneg (by omega)]
    exact Int.bmod_eq_of_le (by omega) (by omega)
  rw [e]
  have : (2 : Int) ^ (n + 1) = 2 ^ n * 2 := Int.pow_succ ..
  omega
theorem own_np (k : Int32) (h : k.toInt < 2 ^ 0) : ¬ ((0 : Int32) < k) := by
  rw [Int32.lt_iff_toInt_lt]
  show ¬ (0 < k.toInt)
  have : (2 : Int) ^ 0 = 1 := rfl
  omega
def exV (p : Int32) : Int32 := ((p &&& (2147483647 : Int32)) - ((p &&& (2147483647 : Int32)) / (7 : Int32)) * (7 : Int32))
theorem own_ex (p : Int32) : 0 ≤ (exV p).toInt ∧ (exV p).toInt < 7 := by
  have h1 := own_rem (p &&& (2147483647 : Int32)) 7 (own_and31 p) (by decide)
  rw [show (7 : Int32).toInt = 7 from rfl] at h1
  unfold exV
  omega
theorem own_cases (x : Int32) (h : 0 ≤ x.toInt ∧ x.toInt < 7) : x = 0 ∨ x = 1 ∨ x = 2 ∨ x = 3 ∨ x = 4 ∨ x = 5 ∨ x = 6 := by
  simp only [← Int32.toInt_inj, show (0 : Int32).toInt = 0 from rfl, show (1 : Int32).toInt = 1 from rfl, show (2 : Int32).toInt = 2 from rfl, show (3 : Int32).toInt = 3 from rfl, show (4 : Int32).toInt = 4 from rfl, show (5 : Int32).toInt = 5 from rfl, show (6 : Int32).toInt = 6 from rfl]
  omega
theorem own_pb0 (x : Int32) (h : 0 ≤ x.toInt ∧ x.toInt < 7) : ((1 : Int32) <<< (x &&& 31)) ≠ 0 := by
  rcases own_cases x h with rfl | rfl | rfl | rfl | rfl | rfl | rfl <;> decide
def bt (x : Int64) (i : Nat) : Bool := x.toBitVec.getLsbD i
def AllB (e : Nat) (r : Int64) : Prop := ∀ j, j < 2 ^ e → bt r j = true
def AnyB (e : Nat) (r : Int64) : Prop := ∃ j, j < 2 ^ e ∧ bt r j = true
theorem own_bt_and (x y : Int64) (i : Nat) : bt (x &&& y) i = (bt x i && bt y i) := by unfold bt; rw [Int64.toBitVec_and, BitVec.getLsbD_and]
theorem own_bt_or (x y : Int64) (i : Nat) : bt (x ||| y) i = (bt x i || bt y i) := by unfold bt; rw [Int64.toBitVec_or, BitVec.getLsbD_or]
theorem own_shr1 (r : Int64) (i : Nat) : bt ((r.toUInt64 >>> ((1 : Int32) &&& 0x3f).toInt64.toUInt64).toInt64) i = bt r (1 + i) := by
  show (r.toBitVec >>> (1 : Nat)).getLsbD i = _
  rw [BitVec.getLsbD_ushiftRight]; rfl
theorem own_shr2 (r : Int64) (i : Nat) : bt ((r.toUInt64 >>> ((2 : Int32) &&& 0x3f).toInt64.toUInt64).toInt64) i = bt r (2 + i) := by
  show (r.toBitVec >>> (2 : Nat)).getLsbD i = _
  rw [BitVec.getLsbD_ushiftRight]; rfl
theorem own_shr4 (r : Int64) (i : Nat) : bt ((r.toUInt64 >>> ((4 : Int32) &&& 0x3f).toInt64.toUInt64).toInt64) i = bt r (4 + i) := by
  show (r.toBitVec >>> (4 : Nat)).getLsbD i = _
  rw [BitVec.getLsbD_ushiftRight]; rfl
theorem own_shr8 (r : Int64) (i : Nat) : bt ((r.toUInt64 >>> ((8 : Int32) &&& 0x3f).toInt64.toUInt64).toInt64) i = bt r (8 + i) := by
  show (r.toBitVec >>> (8 : Nat)).getLsbD i = _
  rw [BitVec.getLsbD_ushiftRight]; rfl
theorem own_shr16 (r : Int64) (i : Nat) : bt ((r.toUInt64 >>> ((16 : Int32) &&& 0x3f).toInt64.toUInt64).toInt64) i = bt r (16 + i) := by
  show (r.toBitVec >>> (16 : Nat)).getLsbD i = _
  rw [BitVec.getLsbD_ushiftRight]; rfl
theorem own_shr32 (r : Int64) (i : Nat) : bt ((r.toUInt64 >>> ((32 : Int32) &&& 0x3f).toInt64.toUInt64).toInt64) i = bt r (32 + i) := by
  show (r.toBitVec >>> (32 : Nat)).getLsbD i = _
  rw [BitVec.getLsbD_ushiftRight]; rfl
theorem own_all_step {e : Nat} {r : Int64} {k f : Int32} (hf : ¬ f = (0 : Int32)) (hk : ∀ i, bt ((r.toUInt64 >>> (k &&& 0x3f).toInt64.toUInt64).toInt64) i = bt r (2 ^ e + i)) : AllB e (stepV f r k) ↔ AllB (e + 1) r := by
  unfold AllB stepV
  rw [if_neg hf]
  simp only [own_bt_and, hk, Bool.and_eq_true]
  have h2 : 2 ^ (e + 1) = 2 ^ e + 2 ^ e := by omega
  constructor
  · intro h j hj
    by_cases hl : j < 2 ^ e
    · exact (h j hl).1
    · have := (h (j - 2 ^ e) (by omega)).2
      rwa [show 2 ^ e + (j - 2 ^ e) = j by omega] at this
  · intro h j hj
    exact ⟨h j (by omega), h _ (by omega)⟩
theorem own_any_step {e : Nat} {r : Int64} {k f : Int32} (hf : f = (0 : Int32)) (hk : ∀ i, bt ((r.toUInt64 >>> (k &&& 0x3f).toInt64.toUInt64).toInt64) i = bt r (2 ^ e + i)) : AnyB e (stepV f r k) ↔ AnyB (e + 1) r := by
  unfold AnyB stepV
  rw [if_pos hf]
  simp only [own_bt_or, hk, Bool.or_eq_true]
  have h2 : 2 ^ (e + 1) = 2 ^ e + 2 ^ e := by omega
  constructor
  · rintro ⟨j, hj, h | h⟩
    · exact ⟨j, by omega, h⟩
    · exact ⟨_, by omega, h⟩
  · rintro ⟨j, hj, h⟩
    by_cases hl : j < 2 ^ e
    · exact ⟨j, hl, Or.inl h⟩
    · exact ⟨j - 2 ^ e, by omega, Or.inr (by rwa [show 2 ^ e + (j - 2 ^ e) = j by omega])⟩
theorem own_fold0 (f : Int32) (n : Nat) (r : Int64) : foldV f n r 0 = r := by
  cases n with
  | zero => rfl
  | succ n => rw [foldV, if_neg (by decide)]
def hlf : Nat → Int32
  | 0 => 0
  | 1 => 1
  | 2 => 2
  | 3 => 4
  | 4 => 8
  | 5 => 16
  | _ => 32
theorem own_foldn (f : Int32) (n e : Nat) (he : e + 1 ≤ 6) (r : Int64) : foldV f (n + 1) r (hlf (e + 1)) = foldV f n (stepV f r (hlf (e + 1))) (hlf e) := by
  rw [foldV]
  match e, he with
  | 0, _ => rw [if_pos (by decide)]; rfl
  | 1, _ => rw [if_pos (by decide)]; rfl
  | 2, _ => rw [if_pos (by decide)]; rfl
  | 3, _ => rw [if_pos (by decide)]; rfl
  | 4, _ => rw [if_pos (by decide)]; rfl
  | 5, _ => rw [if_pos (by decide)]; rfl
theorem own_hk (e : Nat) (he : e + 1 ≤ 6) (r : Int64) (i : Nat) : bt ((r.toUInt64 >>> ((hlf (e + 1)) &&& 0x3f).toInt64.toUInt64).toInt64) i = bt r (2 ^ e + i) := by
  match e, he with
  | 0, _ => exact own_shr1 r i
  | 1, _ => exact own_shr2 r i
  | 2, _ => exact own_shr4 r i
  | 3, _ => exact own_shr8 r i
  | 4, _ => exact own_shr16 r i
  | 5, _ => exact own_shr32 r i
theorem own_fold_all {f : Int32} (hf : ¬ f = (0 : Int32)) : ∀ (e n : Nat) (r : Int64), e ≤ 6 → e ≤ n → (bt (foldV f n r (hlf e)) 0 = true ↔ AllB e r) := by
  intro e
  induction e with
  | zero =>
    intro n r _ _
    rw [show hlf 0 = 0 from rfl, own_fold0]
    constructor
    · intro h j hj
      have : j = 0 := by simp at hj; exact hj
      rw [this]; exact h
    · intro h; exact h 0 (by decide)
  | succ e ih =>
    intro n r h6 hn
    match n, hn with
    | n + 1, hn =>
      rw [own_foldn f n e h6, ih n _ (by omega) (by omega)]
      exact own_all_step hf (own_hk e h6 r)
theorem own_fold_any {f : Int32} (hf : f = (0 : Int32)) : ∀ (e n : Nat) (r : Int64), e ≤ 6 → e ≤ n → (bt (foldV f n r (hlf e)) 0 = true ↔ AnyB e r) := by
  intro e
  induction e with
  | zero =>
    intro n r _ _
    rw [show hlf 0 = 0 from rfl, own_fold0]
    constructor
    · intro h; exact ⟨0, by decide, h⟩
    · rintro ⟨j, hj, h⟩
      have : j = 0 := by simp at hj; exact hj
      rw [this] at h; exact h
  | succ e ih =>
    intro n r h6 hn
    match n, hn with
    | n + 1, hn =>
      rw [own_foldn f n e h6, ih n _ (by omega) (by omega)]
      exact own_any_step hf (own_hk e h6 r)
theorem own_act (r : Int64) : actV r = if bt r 0 = true then 1 else 0 := by
  unfold actV
  have h : ((r &&& (1 : Int64)) = (0 : Int64)) ↔ ¬ bt r 0 = true := by
    constructor
    · intro h q
      have h2 := congrArg (fun z => bt z 0) h
      simp only [own_bt_and, q, Bool.true_and] at h2
      exact absurd h2 (by decide)
    · intro h
      apply Int64.toBitVec_inj.mp
      apply BitVec.eq_of_getLsbD_eq
      intro i hi
      have e0 : (r &&& (1 : Int64)).toBitVec.getLsbD i = (bt r i && bt 1 i) := own_bt_and r 1 i
      rw [e0]
      have e1 : bt 1 i = decide (i = 0) := by
        have : ∀ i : Fin 64, bt 1 i.val = decide (i.val = 0) := by decide
        exact this ⟨i, hi⟩
      rw [e1]
      show _ = (0#64).getLsbD i
      by_cases h0 : i = 0
      · rw [h0]; simp at h; simp [h]
      · simp [h0]
  by_cases q : bt r 0 = true
  · rw [if_pos q, if_neg (fun z => h.mp z q)]
  · rw [if_neg q, if_pos (h.mpr q)]
theorem own_ext {x y : Int64} (h : ∀ i, i < 64 → bt x i = bt y i) : x = y := Int64.toBitVec_inj.mp (BitVec.eq_of_getLsbD_eq (fun i hi => h i hi))
theorem own_field_all {e : Nat} {r m : Int64} (he : 2 ^ e ≤ 64) (hm : ∀ i : Fin 64, bt m i.val = decide (i.val < 2 ^ e)) : (r &&& m) = m ↔ AllB e r := by
  constructor
  · intro h j hj
    have h2 := congrArg (fun z => bt z j) h
    have hmj := hm ⟨j, by omega⟩
    simp only [own_bt_and] at h2
    rw [hmj] at h2
    simpa [hj] using h2
  · intro h
    apply own_ext
    intro i hi
    rw [own_bt_and, hm ⟨i, hi⟩]
    by_cases q : i < 2 ^ e
    · rw [h i q]; simp
    · simp [q]
theorem own_field_any {e : Nat} {r m : Int64} (he : 2 ^ e ≤ 64) (hm : ∀ i : Fin 64, bt m i.val = decide (i.val < 2 ^ e)) : ¬ (r &&& m) = 0 ↔ AnyB e r := by
  constructor
  · intro h
    apply Classical.byContradiction
    intro q
    apply h
    apply own_ext
    intro i hi
    rw [own_bt_and, hm ⟨i, hi⟩]
    have e0 : bt 0 i = false := by simp [bt]
    rw [e0]
    by_cases q2 : i < 2 ^ e
    · have : ¬ bt r i = true := fun z => q ⟨i, q2, z⟩
      simp [this]
    · simp [q2]
  · rintro ⟨j, hj, h⟩ q
    have h2 := congrArg (fun z => bt z j) q
    have hmj := hm ⟨j, by omega⟩
    simp only [own_bt_and] at h2
    rw [hmj, h] at h2
    have e0 : bt 0 j = false := by simp [bt]
    rw [e0] at h2
    simp [hj] at h2
theorem own_core {e : Nat} {m : Int64} {f pb : Int32} (he6 : e ≤ 6) (he : 2 ^ e ≤ 64) (r : Int64) (hb : pb / (2 : Int32) = hlf e) (hm : ∀ i : Fin 64, bt m i.val = decide (i.val < 2 ^ e)) : actV (foldV f 31 r (pb / (2 : Int32))) = expV f (r &&& m) m := by
  rw [own_act, hb]
  unfold expV
  by_cases hf : f = (0 : Int32)
  · rw [if_pos hf]
    have h1 := own_fold_any hf e 31 r he6 (by omega)
    have h2 := own_field_any (r := r) he hm
    by_cases q : bt (foldV f 31 r (hlf e)) 0 = true
    · rw [if_pos q, if_neg (h2.mpr (h1.mp q))]
    · rw [if_neg q]
      by_cases z : (r &&& m) = 0
      · rw [if_pos z]
      · exact absurd (h1.mpr (h2.mp z)) q
  · rw [if_neg hf]
    have h1 := own_fold_all hf e 31 r he6 (by omega)
    have h2 := own_field_all (r := r) he hm
    by_cases q : bt (foldV f 31 r (hlf e)) 0 = true
    · rw [if_pos q, if_pos (h2.mpr (h1.mp q))]
    · rw [if_neg q, if_neg (fun z => q (h1.mpr (h2.mp z)))]
theorem own_sh_aux (q : Int64) (pb per : Nat) (P : Int32) (M : Int64) (hP : P.toBitVec.toNat = pb) (hM : M.toBitVec.toNat = per - 1) (k : Nat) (hper : per = 2 ^ k) (hpb : pb * per = 64) : ((((q.toInt32) * P) &&& (63 : Int32)) &&& (0x3f : Int32)) = ((((q &&& M).toInt32) * P) &&& (0x3f : Int32)) := by
  apply Int32.toBitVec_inj.mp
  apply BitVec.eq_of_toNat_eq
  simp only [Int32.toBitVec_and, BitVec.toNat_and, Int32.toBitVec_mul, BitVec.toNat_mul, hP]
  have e1 : (q.toInt32).toBitVec.toNat = q.toBitVec.toNat % 2 ^ 32 := by
    show (BitVec.signExtend 32 q.toBitVec).toNat = _
    rw [BitVec.signExtend_eq_setWidth_of_le _ (by decide), BitVec.toNat_setWidth]
  have e2 : ((q &&& M).toInt32).toBitVec.toNat = (q.toBitVec.toNat % per) % 2 ^ 32 := by
    show (BitVec.signExtend 32 (q &&& M).toBitVec).toNat = _
    rw [BitVec.signExtend_eq_setWidth_of_le _ (by decide), BitVec.toNat_setWidth, Int64.toBitVec_and, BitVec.toNat_and, hM, hper, Nat.and_two_pow_sub_one_eq_mod]
  rw [e1, e2]
  show ((q.toBitVec.toNat % 2 ^ 32 * pb % 2 ^ 32) &&& 63) &&& 63 = ((q.toBitVec.toNat % per) % 2 ^ 32 * pb % 2 ^ 32) &&& 63
  have m63 : ∀ z : Nat, z &&& 63 = z % 64 := fun z => Nat.and_two_pow_sub_one_eq_mod z 6
  rw [m63, m63, m63]
  generalize q.toBitVec.toNat = z
  have h1 : z % 2 ^ 32 * pb % 2 ^ 32 % 64 = z * pb % 64 := by
    rw [Nat.mod_mod_of_dvd _ (by decide : 64 ∣ 2 ^ 32), Nat.mul_mod, Nat.mod_mod_of_dvd _ (by decide : 64 ∣ 2 ^ 32), ← Nat.mul_mod]
  have h2 : z % per % 2 ^ 32 * pb % 2 ^ 32 % 64 = z * pb % 64 := by
    rw [Nat.mod_mod_of_dvd _ (by decide : 64 ∣ 2 ^ 32), Nat.mul_mod, Nat.mod_mod_of_dvd _ (by decide : 64 ∣ 2 ^ 32), ← Nat.mul_mod]
    have h3 : z * pb = (z % per) * pb + 64 * (z / per) := by
      have := Nat.mod_add_div z per
      calc z * pb = (z % per + per * (z / per)) * pb := by rw [this]
        _ = (z % per) * pb + (pb * per) * (z / per) := by rw [Nat.add_mul, Nat.mul_comm per, Nat.mul_assoc, Nat.mul_comm per pb, Nat.mul_comm (z / per)]
        _ = _ := by rw [hpb]
    rw [h3, Nat.add_mul_mod_self_left]
  rw [Nat.mod_mod, h1, h2]
theorem own_law (q0 q1 : Int64) (x f : Int32) (h : 0 ≤ x.toInt ∧ x.toInt < 7) : actV (testV q0 q1 ((1 : Int32) <<< (x &&& 31)) f) = expV f (((q0.toUInt64 >>> (((((q1 &&& (((64 : Int32) / ((1 : Int32) <<< (x &&& 31))) - (1 : Int32)).toInt64).toInt32) * ((1 : Int32) <<< (x &&& 31)))) &&& 0x3f).toInt64.toUInt64).toInt64) &&& (maskV ((1 : Int32) <<< (x &&& 31)))) (maskV ((1 : Int32) <<< (x &&& 31))) := by
  unfold testV shiftV
  rcases own_cases x h with rfl | rfl | rfl | rfl | rfl | rfl | rfl
  · rw [show ((1 : Int32) <<< ((0 : Int32) &&& 31)) = (1 : Int32) from rfl, show (((64 : Int32) / (1 : Int32)) - (1 : Int32)).toInt64 = (63 : Int64) from rfl, show maskV (1 : Int32) = (1 : Int64) from by decide, own_sh_aux q1 1 64 (1 : Int32) (63 : Int64) rfl rfl 6 rfl rfl]
    exact own_core (e := 0) (by decide) (by decide) _ rfl (by decide)
  · rw [show ((1 : Int32) <<< ((1 : Int32) &&& 31)) = (2 : Int32) from rfl, show (((64 : Int32) / (2 : Int32)) - (1 : Int32)).toInt64 = (31 : Int64) from rfl, show maskV (2 : Int32) = (3 : Int64) from by decide, own_sh_aux q1 2 32 (2 : Int32) (31 : Int64) rfl rfl 5 rfl rfl]
    exact own_core (e := 1) (by decide) (by decide) _ rfl (by decide)
  · rw [show ((1 : Int32) <<< ((2 : Int32) &&& 31)) = (4 : Int32) from rfl, show (((64 : Int32) / (4 : Int32)) - (1 : Int32)).toInt64 = (15 : Int64) from rfl, show maskV (4 : Int32) = (15 : Int64) from by decide, own_sh_aux q1 4 16 (4 : Int32) (15 : Int64) rfl rfl 4 rfl rfl]
    exact own_core (e := 2) (by decide) (by decide) _ rfl (by decide)
  · rw [show ((1 : Int32) <<< ((3 : Int32) &&& 31)) = (8 : Int32) from rfl, show (((64 : Int32) / (8 : Int32)) - (1 : Int32)).toInt64 = (7 : Int64) from rfl, show maskV (8 : Int32) = (255 : Int64) from by decide, own_sh_aux q1 8 8 (8 : Int32) (7 : Int64) rfl rfl 3 rfl rfl]
    exact own_core (e := 3) (by decide) (by decide) _ rfl (by decide)
  · rw [show ((1 : Int32) <<< ((4 : Int32) &&& 31)) = (16 : Int32) from rfl, show (((64 : Int32) / (16 : Int32)) - (1 : Int32)).toInt64 = (3 : Int64) from rfl, show maskV (16 : Int32) = (65535 : Int64) from by decide, own_sh_aux q1 16 4 (16 : Int32) (3 : Int64) rfl rfl 2 rfl rfl]
    exact own_core (e := 4) (by decide) (by decide) _ rfl (by decide)
  · rw [show ((1 : Int32) <<< ((5 : Int32) &&& 31)) = (32 : Int32) from rfl, show (((64 : Int32) / (32 : Int32)) - (1 : Int32)).toInt64 = (1 : Int64) from rfl, show maskV (32 : Int32) = (4294967295 : Int64) from by decide, own_sh_aux q1 32 2 (32 : Int32) (1 : Int64) rfl rfl 1 rfl rfl]
    exact own_core (e := 5) (by decide) (by decide) _ rfl (by decide)
  · rw [show ((1 : Int32) <<< ((6 : Int32) &&& 31)) = (64 : Int32) from rfl, show (((64 : Int32) / (64 : Int32)) - (1 : Int32)).toInt64 = (0 : Int64) from rfl, show maskV (64 : Int32) = (-1 : Int64) from by decide, own_sh_aux q1 64 1 (64 : Int32) (0 : Int64) rfl rfl 0 rfl rfl]
    exact own_core (e := 6) (by decide) (by decide) _ rfl (by decide)
theorem d2_0 : decode prog_25_method_11_code 0 = .ok (.lload_n 0, 1) := by decide +kernel
theorem d2_1 : decode prog_25_method_11_code 1 = .ok (.l2i, 1) := by decide +kernel
theorem d2_2 : decode prog_25_method_11_code 2 = .ok (.iload_n 2, 1) := by decide +kernel
theorem d2_3 : decode prog_25_method_11_code 3 = .ok (.imul, 1) := by decide +kernel
theorem d2_4 : decode prog_25_method_11_code 4 = .ok (.bipush 63, 2) := by decide +kernel
theorem d2_6 : decode prog_25_method_11_code 6 = .ok (.iand, 1) := by decide +kernel
theorem d2_7 : decode prog_25_method_11_code 7 = .ok (.ireturn, 1) := by decide +kernel
theorem pn_0 : plainName "com/example/bitsieve/bitsieve/filter/Words" = true := by first | (simp [plainName, overriddenIn]; done) | decide +kernel
theorem ef_2 (m : MethodId) (q0 : Int64) (p1 : Int32) : entryFrame m #[(.long q0), (.int p1)] 3 = mkF m 0 #[.val (.long q0), .second, .val (.int p1)] [] := by first | (simp [entryFrame, mkF, argsToLocals, Value.category]; done) | rfl
def Q2 (q0 : Int64) (p1 : Int32) (h0 : Heap) (n0 : Nat) (v : Option Value) (h : Heap) (L : List Loc) : Prop := v = some (.int (shiftV q0 p1)) ∧ Fr n0 L ∧ h = h0
set_option maxRecDepth 65536 in
set_option maxHeartbeats 40000000 in
theorem rm2 (l : Launch) (Z : State) (a0 : Array Value) (hw : ∀ d ∈ tables_1, d.before a0 Z = true) (ws : List Jvm.Cond) (q0 : Int64) (p1 : Int32) (h0 : Heap) (n0 : Nat) (Z0 : n0 ≤ h0.size)  :
    MetFree l (⟨"com/example/bitsieve/bitsieve/filter/Words", "shift", "(JI)I"⟩ : MethodName) (head1 (Jvm.Cond.code (⟨"com/example/bitsieve/bitsieve/filter/Words", "shift", "(JI)I"⟩ : MethodName) prog_25_method_11_code 3 (some .int) :: ws) ({ frames := 0, cells := 0, slots := 0, locals := 0 } : Room)) (fun a U => a = #[(.long q0), (.int p1)] ∧ Z.Warmed39 U.vm ∧ U.heap = h0) (fun _ _ _ _ _ => True) (fun _ U o U' => ∃ v L, o = .returned v ∧ Q2 q0 p1 h0 n0 v U'.heap L ∧ FrameEnd U o U' L ({ frames := 0, cells := 0, slots := 0, locals := 0 } : Room).cells ({ frames := 0, cells := 0, slots := 0, locals := 0 } : Room).slots) := by
  refine MetFree.of_bodySF (plainFor_of_name pn_0) hisR ?_
  intro p e s m args below meth c s₁ Bd hml0 hP hK
  obtain ⟨rfl, hZ, hh⟩ := hP
  have hx := Bd.exec
  have hby := Bd.bytes
  have hml : c.maxLocals = 3 := hml0
  have hown : s.vm.findClass "com/example/bitsieve/bitsieve/filter/Words" = some m.cls := findClass_of_methodNamed Bd.named
  have hnm := (name_of_methodNamed Bd.named Bd.method).1
  have X0 : Stand p l e ({ frames := 0, cells := 0, slots := 0, locals := 0 } : Room) s m #[(.long q0), (.int p1)] below meth c s₁ [] 0 0 := Stand.of_body Bd
  have e0 : s₁.heap = h0 := by rw [← hh, Bd.state]; rfl
  have N0 := Fr.nil n0
  have pre0 : ∀ t, Steps p.tables e below (s₁.setTop (mkF m 0 #[.val (.long q0), .second, .val (.int p1)] [])) t → Steps p.tables e below (s₁.setTop (entryFrame m #[(.long q0), (.int p1)] 3)) t := fun t k => castTop (ef_2 m q0 p1) k
  obtain ⟨fs, hr, hrun, hended, hW, hsame⟩ := X0.leave (v := some (.int (((q0.toInt32) * p1) &&& (63 : Int32)))) (fun h => by rw [Bd.returns] at h; cases h)
  refine ⟨_, _, pre0 _ ?_, hrun, hended, _, _, rfl, ?_, ⟨_, rfl⟩, hW, hsame.mono (by decide) (by decide)⟩
  · show Steps p.tables e below (s₁.setTop (mkF m 0 #[.val (.long q0), .second, .val (.int p1)] [])) _
    refine XS.lloadN X0.here hx rfl (hb hby d2_0) rfl ?_
    show Steps p.tables e below (s₁.setTop (mkF m 1 #[.val (.long q0), .second, .val (.int p1)] [(.long q0)])) _
    refine XS.l2i X0.here hx rfl (hb hby d2_1) rfl ?_
    show Steps p.tables e below (s₁.setTop (mkF m 2 #[.val (.long q0), .second, .val (.int p1)] [(.int (q0.toInt32))])) _
    refine XS.iloadN X0.here hx rfl (hb hby d2_2) rfl ?_
    show Steps p.tables e below (s₁.setTop (mkF m 3 #[.val (.long q0), .second, .val (.int p1)] [(.int p1), (.int (q0.toInt32))])) _
    refine XS.imul X0.here hx rfl (hb hby d2_3) rfl ?_
    show Steps p.tables e below (s₁.setTop (mkF m 4 #[.val (.long q0), .second, .val (.int p1)] [(.int ((q0.toInt32) * p1))])) _
    refine XS.bipush X0.here hx rfl (hb hby d2_4) ?_
    show Steps p.tables e below (s₁.setTop (mkF m 6 #[.val (.long q0), .second, .val (.int p1)] [(.int (63 : Int32)), (.int ((q0.toInt32) * p1))])) _
    refine XS.iand X0.here hx rfl (hb hby d2_6) rfl ?_
    show Steps p.tables e below (s₁.setTop (mkF m 7 #[.val (.long q0), .second, .val (.int p1)] [(.int (((q0.toInt32) * p1) &&& (63 : Int32)))])) _
    exact retI X0 hx Bd.returns (hb hby d2_7) hr
  · show Q2 q0 p1 h0 n0 _ s₁.heap _
    rw [e0]
    exact ⟨rfl, N0, rfl⟩
theorem d1_0 : decode prog_25_method_12_code 0 = .ok (.lload_n 0, 1) := by decide +kernel
theorem d1_1 : decode prog_25_method_12_code 1 = .ok (.lload_n 2, 1) := by decide +kernel
theorem d1_2 : decode prog_25_method_12_code 2 = .ok (.iload 4, 2) := by decide +kernel
theorem d1_4 : decode prog_25_method_12_code 4 = .ok (.invokestatic 44, 3) := by decide +kernel
theorem d1_7 : decode prog_25_method_12_code 7 = .ok (.lushr, 1) := by decide +kernel
theorem d1_8 : decode prog_25_method_12_code 8 = .ok (.lstore 6, 2) := by decide +kernel
theorem d1_10 : decode prog_25_method_12_code 10 = .ok (.iload 4, 2) := by decide +kernel
theorem d1_12 : decode prog_25_method_12_code 12 = .ok (.iconst 2, 1) := by decide +kernel
theorem d1_13 : decode prog_25_method_12_code 13 = .ok (.idiv, 1) := by decide +kernel
theorem d1_14 : decode prog_25_method_12_code 14 = .ok (.istore 8, 2) := by decide +kernel
theorem d1_16 : decode prog_25_method_12_code 16 = .ok (.iload 8, 2) := by decide +kernel
theorem d1_18 : decode prog_25_method_12_code 18 = .ok (.ifCond .le 38, 3) := by decide +kernel
theorem d1_21 : decode prog_25_method_12_code 21 = .ok (.iload 5, 2) := by decide +kernel
theorem d1_23 : decode prog_25_method_12_code 23 = .ok (.ifCond .eq 14, 3) := by decide +kernel
theorem d1_26 : decode prog_25_method_12_code 26 = .ok (.lload 6, 2) := by decide +kernel
theorem d1_28 : decode prog_25_method_12_code 28 = .ok (.lload 6, 2) := by decide +kernel
theorem d1_30 : decode prog_25_method_12_code 30 = .ok (.iload 8, 2) := by decide +kernel
theorem d1_32 : decode prog_25_method_12_code 32 = .ok (.lushr, 1) := by decide +kernel
theorem d1_33 : decode prog_25_method_12_code 33 = .ok (.land, 1) := by decide +kernel
theorem d1_34 : decode prog_25_method_12_code 34 = .ok (.goto 11, 3) := by decide +kernel
theorem d1_37 : decode prog_25_method_12_code 37 = .ok (.lload 6, 2) := by decide +kernel
theorem d1_39 : decode prog_25_method_12_code 39 = .ok (.lload 6, 2) := by decide +kernel
theorem d1_41 : decode prog_25_method_12_code 41 = .ok (.iload 8, 2) := by decide +kernel
theorem d1_43 : decode prog_25_method_12_code 43 = .ok (.lushr, 1) := by decide +kernel
theorem d1_44 : decode prog_25_method_12_code 44 = .ok (.lor, 1) := by decide +kernel
theorem d1_45 : decode prog_25_method_12_code 45 = .ok (.lstore 6, 2) := by decide +kernel
theorem d1_47 : decode prog_25_method_12_code 47 = .ok (.iload 8, 2) := by decide +kernel
theorem d1_49 : decode prog_25_method_12_code 49 = .ok (.iconst 2, 1) := by decide +kernel
theorem d1_50 : decode prog_25_method_12_code 50 = .ok (.idiv, 1) := by decide +kernel
theorem d1_51 : decode prog_25_method_12_code 51 = .ok (.istore 8, 2) := by decide +kernel
theorem d1_53 : decode prog_25_method_12_code 53 = .ok (.goto (-37), 3) := by decide +kernel
theorem d1_56 : decode prog_25_method_12_code 56 = .ok (.lload 6, 2) := by decide +kernel
theorem d1_58 : decode prog_25_method_12_code 58 = .ok (.lreturn, 1) := by decide +kernel
theorem pd_0 : parseMethodDescriptor "(JI)I" = some ⟨[.long, .int], some .int⟩ := by decide +kernel
theorem ef_1 (m : MethodId) (q0 : Int64) (q1 : Int64) (p2 : Int32) (p3 : Int32) : entryFrame m #[(.long q0), (.long q1), (.int p2), (.int p3)] 9 = mkF m 0 #[.val (.long q0), .second, .val (.long q1), .second, .val (.int p2), .val (.int p3), .unset, .unset, .unset] [] := by first | (simp [entryFrame, mkF, argsToLocals, Value.category]; done) | rfl
def Q1 (q0 q1 : Int64) (p2 p3 : Int32) (h0 : Heap) (n0 : Nat) (v : Option Value) (h : Heap) (L : List Loc) : Prop := v = some (.long (testV q0 q1 p2 p3)) ∧ Fr n0 L ∧ h = h0
set_option maxRecDepth 65536 in
set_option maxHeartbeats 40000000 in
theorem rm1 (l : Launch) (Z : State) (a0 : Array Value) (hw : ∀ d ∈ tables_1, d.before a0 Z = true) (ws : List Jvm.Cond) (q0 q1 : Int64) (p2 p3 : Int32) (h0 : Heap) (n0 : Nat) (Z0 : n0 ≤ h0.size)  :
    MetFree l (⟨"com/example/bitsieve/bitsieve/filter/Words", "test", "(JJIZ)J"⟩ : MethodName) (head1 (Jvm.Cond.code (⟨"com/example/bitsieve/bitsieve/filter/Words", "test", "(JJIZ)J"⟩ : MethodName) prog_25_method_12_code 9 (some .long) :: ws) ({ frames := 1, cells := 0, slots := 0, locals := 16 } : Room)) (fun a U => a = #[(.long q0), (.long q1), (.int p2), (.int p3)] ∧ Z.Warmed39 U.vm ∧ U.heap = h0) (fun _ _ _ _ _ => True) (fun _ U o U' => ∃ v L, o = .returned v ∧ Q1 q0 q1 p2 p3 h0 n0 v U'.heap L ∧ FrameEnd U o U' L ({ frames := 1, cells := 0, slots := 0, locals := 16 } : Room).cells ({ frames := 1, cells := 0, slots := 0, locals := 16 } : Room).slots) := by
  refine MetFree.of_bodySF (plainFor_of_name pn_0) hisR ?_
  intro p e s m args below meth c s₁ Bd hml0 hP hK
  obtain ⟨rfl, hZ, hh⟩ := hP
  have hx := Bd.exec
  have hby := Bd.bytes
  have hml : c.maxLocals = 9 := hml0
  have hown : s.vm.findClass "com/example/bitsieve/bitsieve/filter/Words" = some m.cls := findClass_of_methodNamed Bd.named
  have hnm := (name_of_methodNamed Bd.named Bd.method).1
  have X0 : Stand p l e ({ frames := 1, cells := 0, slots := 0, locals := 16 } : Room) s m #[(.long q0), (.long q1), (.int p2), (.int p3)] below meth c s₁ [] 0 0 := Stand.of_body Bd
  have e0 : s₁.heap = h0 := by rw [← hh, Bd.state]; rfl
  have N0 := Fr.nil n0
  have pre0 : ∀ t, Steps p.tables e below (s₁.setTop (mkF m 0 #[.val (.long q0), .second, .val (.long q1), .second, .val (.int p2), .val (.int p3), .unset, .unset, .unset] [])) t → Steps p.tables e below (s₁.setTop (entryFrame m #[(.long q0), (.long q1), (.int p2), (.int p3)] 9)) t := fun t k => castTop (ef_1 m q0 q1 p2 p3) k
  obtain ⟨_, _, ⟨T1, L1, k1, n1⟩, -, X1, ⟨Lc1, hQ1, l1, y1, z1⟩, st1⟩ := Jvm.LawKit.callS X0 hx (y := (⟨"com/example/bitsieve/bitsieve/filter/Words", "shift", "(JI)I"⟩ : MethodName)) hown (mvT hZ (hw _ (List.mem_of_getElem? (i := 5) rfl))) (mvT hZ (hw _ (List.mem_of_getElem? (i := 6) rfl))) (mvT hZ (hw _ (List.mem_of_getElem? (i := 3) rfl))) (mvT hZ (hw _ (List.mem_of_getElem? (i := 7) rfl))) (by decide) (backOf (W := 2) (rm2 l Z a0 hw [] q1 p2 h0 n0 Z0 ) hZ (hw _ (List.mem_of_getElem? (i := 7) rfl)) (hw _ (List.mem_of_getElem? (i := 3) rfl)) (by decide) (by decide)) (g := (mkF m 4 #[.val (.long q0), .second, .val (.long q1), .second, .val (.int p2), .val (.int p3), .unset, .unset, .unset] [(.int p2), (.long q1), (.long q0)])) rfl (by rw [hml]; rfl) (argsL := [(.long q1), (.int p2)]) (rest := [(.long q0)]) (lenOf pd_0 rfl) rfl (by show 2 * 0 + _ ≤ _; exact Nat.le_of_eq rfl) (hb hby d1_4) (fun _ _ => ⟨rfl, e0, (by decide : 0 + 0 ≤ _), (by decide : 0 + 0 ≤ _)⟩)
  dsimp only [Pt.U, Pt.locs, Pt.cells, Pt.slots] at X1 l1 y1 z1 st1 hQ1
  subst l1 y1 z1
  obtain ⟨rfl, N1q, e1⟩ := hQ1
  have N1 := Fr.app N0 N1q
  have pre2 : ∀ t, Steps p.tables e below (T1.setTop (mkF m 16 #[.val (.long q0), .second, .val (.long q1), .second, .val (.int p2), .val (.int p3), .val (.long ((q0.toUInt64 >>> ((shiftV q1 p2) &&& 0x3f).toInt64.toUInt64).toInt64)), .second, .val (.int (p2 / (2 : Int32)))] [])) t → Steps p.tables e below (s₁.setTop (entryFrame m #[(.long q0), (.long q1), (.int p2), (.int p3)] 9)) t := fun t kt => pre0 t (by
      show Steps p.tables e below (s₁.setTop (mkF m 0 #[.val (.long q0), .second, .val (.long q1), .second, .val (.int p2), .val (.int p3), .unset, .unset, .unset] [])) _
      refine XS.lloadN X0.here hx rfl (hb hby d1_0) rfl ?_
      show Steps p.tables e below (s₁.setTop (mkF m 1 #[.val (.long q0), .second, .val (.long q1), .second, .val (.int p2), .val (.int p3), .unset, .unset, .unset] [(.long q0)])) _
      refine XS.lloadN X0.here hx rfl (hb hby d1_1) rfl ?_
      show Steps p.tables e below (s₁.setTop (mkF m 2 #[.val (.long q0), .second, .val (.long q1), .second, .val (.int p2), .val (.int p3), .unset, .unset, .unset] [(.long q1), (.long q0)])) _
      refine XS.iload X0.here hx rfl (hb hby d1_2) rfl ?_
      show Steps p.tables e below (s₁.setTop (mkF m 4 #[.val (.long q0), .second, .val (.long q1), .second, .val (.int p2), .val (.int p3), .unset, .unset, .unset] [(.int p2), (.long q1), (.long q0)])) _
      refine st1 _ ?_
      show Steps p.tables e below (T1.setTop (mkF m 7 #[.val (.long q0), .second, .val (.long q1), .second, .val (.int p2), .val (.int p3), .unset, .unset, .unset] [(.int (shiftV q1 p2)), (.long q0)])) _
      refine XS.lushr X1.here hx rfl (hb hby d1_7) rfl ?_
      show Steps p.tables e below (T1.setTop (mkF m 8 #[.val (.long q0), .second, .val (.long q1), .second, .val (.int p2), .val (.int p3), .unset, .unset, .unset] [(.long ((q0.toUInt64 >>> ((shiftV q1 p2) &&& 0x3f).toInt64.toUInt64).toInt64))])) _
      refine XS.lstore X1.here hx rfl (hb hby d1_8) rfl (l' := #[.val (.long q0), .second, .val (.long q1), .second, .val (.int p2), .val (.int p3), .val (.long ((q0.toUInt64 >>> ((shiftV q1 p2) &&& 0x3f).toInt64.toUInt64).toInt64)), .second, .unset]) rfl ?_
      show Steps p.tables e below (T1.setTop (mkF m 10 #[.val (.long q0), .second, .val (.long q1), .second, .val (.int p2), .val (.int p3), .val (.long ((q0.toUInt64 >>> ((shiftV q1 p2) &&& 0x3f).toInt64.toUInt64).toInt64)), .second, .unset] [])) _
      refine XS.iload X1.here hx rfl (hb hby d1_10) rfl ?_
      show Steps p.tables e below (T1.setTop (mkF m 12 #[.val (.long q0), .second, .val (.long q1), .second, .val (.int p2), .val (.int p3), .val (.long ((q0.toUInt64 >>> ((shiftV q1 p2) &&& 0x3f).toInt64.toUInt64).toInt64)), .second, .unset] [(.int p2)])) _
      refine XS.iconst X1.here hx rfl (hb hby d1_12) ?_
      show Steps p.tables e below (T1.setTop (mkF m 13 #[.val (.long q0), .second, .val (.long q1), .second, .val (.int p2), .val (.int p3), .val (.long ((q0.toUInt64 >>> ((shiftV q1 p2) &&& 0x3f).toInt64.toUInt64).toInt64)), .second, .unset] [(.int (2 : Int32)), (.int p2)])) _
      refine XS.idiv X1.here hx rfl (hb hby d1_13) rfl (by decide) ?_
      show Steps p.tables e below (T1.setTop (mkF m 14 #[.val (.long q0), .second, .val (.long q1), .second, .val (.int p2), .val (.int p3), .val (.long ((q0.toUInt64 >>> ((shiftV q1 p2) &&& 0x3f).toInt64.toUInt64).toInt64)), .second, .unset] [(.int (p2 / (2 : Int32)))])) _
      refine XS.istore X1.here hx rfl (hb hby d1_14) rfl (l' := #[.val (.long q0), .second, .val (.long q1), .second, .val (.int p2), .val (.int p3), .val (.long ((q0.toUInt64 >>> ((shiftV q1 p2) &&& 0x3f).toInt64.toUInt64).toInt64)), .second, .val (.int (p2 / (2 : Int32)))]) rfl ?_
      exact kt)
  have loop : ∀ (n : Nat) (r : Int64) (k : Int32), k.toInt < 2 ^ n → ∃ k' : Int32, ∀ t, Steps p.tables e below (T1.setTop (mkF m 56 #[.val (.long q0), .second, .val (.long q1), .second, .val (.int p2), .val (.int p3), .val (.long (foldV p3 n r k)), .second, .val (.int k')] [])) t → Steps p.tables e below (T1.setTop (mkF m 16 #[.val (.long q0), .second, .val (.long q1), .second, .val (.int p2), .val (.int p3), .val (.long r), .second, .val (.int k)] [])) t := by
    intro n
    induction n with
    | zero =>
      intro r k hk
      have preS : ∀ t, Steps p.tables e below (T1.setTop (mkF m 16 #[.val (.long q0), .second, .val (.long q1), .second, .val (.int p2), .val (.int p3), .val (.long r), .second, .val (.int k)] [])) t → Steps p.tables e below (T1.setTop (mkF m 16 #[.val (.long q0), .second, .val (.long q1), .second, .val (.int p2), .val (.int p3), .val (.long r), .second, .val (.int k)] [])) t := fun t k => k
      rw [foldV]
      exact ⟨k, fun t kt => preS t (by
          show Steps p.tables e below (T1.setTop (mkF m 16 #[.val (.long q0), .second, .val (.long q1), .second, .val (.int p2), .val (.int p3), .val (.long r), .second, .val (.int k)] [])) _
          refine XS.iload X1.here hx rfl (hb hby d1_16) rfl ?_
          show Steps p.tables e below (T1.setTop (mkF m 18 #[.val (.long q0), .second, .val (.long q1), .second, .val (.int p2), .val (.int p3), .val (.long r), .second, .val (.int k)] [(.int k)])) _
          refine XS.ifYes X1.here hx rfl (pc0 := 18) (pc' := 56) rfl (hb hby d1_18) rfl ((if0 _ _).trans (flt (show ¬ ((0 : Int32) < k) from (own_np k hk))).2.2.2) (by decide) (by decide) ?_
          exact kt)⟩
    | succ n ih =>
      intro r k hk
      have preS : ∀ t, Steps p.tables e below (T1.setTop (mkF m 16 #[.val (.long q0), .second, .val (.long q1), .second, .val (.int p2), .val (.int p3), .val (.long r), .second, .val (.int k)] [])) t → Steps p.tables e below (T1.setTop (mkF m 16 #[.val (.long q0), .second, .val (.long q1), .second, .val (.int p2), .val (.int p3), .val (.long r), .second, .val (.int k)] [])) t := fun t k => k
      have pre3 : ∀ t, Steps p.tables e below (T1.setTop (mkF m 18 #[.val (.long q0), .second, .val (.long q1), .second, .val (.int p2), .val (.int p3), .val (.long r), .second, .val (.int k)] [(.int k)])) t → Steps p.tables e below (T1.setTop (mkF m 16 #[.val (.long q0), .second, .val (.long q1), .second, .val (.int p2), .val (.int p3), .val (.long r), .second, .val (.int k)] [])) t := fun t kt => preS t (by
          show Steps p.tables e below (T1.setTop (mkF m 16 #[.val (.long q0), .second, .val (.long q1), .second, .val (.int p2), .val (.int p3), .val (.long r), .second, .val (.int k)] [])) _
          refine XS.iload X1.here hx rfl (hb hby d1_16) rfl ?_
          exact kt)
      by_cases hc18 : (0 : Int32) < k
      · have pre4 : ∀ t, Steps p.tables e below (T1.setTop (mkF m 23 #[.val (.long q0), .second, .val (.long q1), .second, .val (.int p2), .val (.int p3), .val (.long r), .second, .val (.int k)] [(.int p3)])) t → Steps p.tables e below (T1.setTop (mkF m 16 #[.val (.long q0), .second, .val (.long q1), .second, .val (.int p2), .val (.int p3), .val (.long r), .second, .val (.int k)] [])) t := fun t kt => pre3 t (by
            show Steps p.tables e below (T1.setTop (mkF m 18 #[.val (.long q0), .second, .val (.long q1), .second, .val (.int p2), .val (.int p3), .val (.long r), .second, .val (.int k)] [(.int k)])) _
            refine XS.ifNo X1.here hx rfl (hb hby d1_18) rfl ((if0 _ _).trans (tlt (show (0 : Int32) < k from hc18)).2.2.2) ?_
            show Steps p.tables e below (T1.setTop (mkF m 21 #[.val (.long q0), .second, .val (.long q1), .second, .val (.int p2), .val (.int p3), .val (.long r), .second, .val (.int k)] [])) _
            refine XS.iload X1.here hx rfl (hb hby d1_21) rfl ?_
            exact kt)
        by_cases hc23 : p3 = (0 : Int32)
        · have ef : stepV p3 r k = (r ||| ((r.toUInt64 >>> (k &&& 0x3f).toInt64.toUInt64).toInt64)) := by rw [stepV, if_pos hc23]
          rw [foldV, if_pos hc18, ef]
          obtain ⟨k', hk'⟩ := ih (r ||| ((r.toUInt64 >>> (k &&& 0x3f).toInt64.toUInt64).toInt64)) (k / (2 : Int32)) (own_half n k hc18 hk)
          exact ⟨k', fun t kt => pre4 t (by
              show Steps p.tables e below (T1.setTop (mkF m 23 #[.val (.long q0), .second, .val (.long q1), .second, .val (.int p2), .val (.int p3), .val (.long r), .second, .val (.int k)] [(.int p3)])) _
              refine XS.ifYes X1.here hx rfl (pc0 := 23) (pc' := 37) rfl (hb hby d1_23) rfl ((if0 _ _).trans (teq (show p3 = (0 : Int32) from hc23)).1) (by decide) (by decide) ?_
              show Steps p.tables e below (T1.setTop (mkF m 37 #[.val (.long q0), .second, .val (.long q1), .second, .val (.int p2), .val (.int p3), .val (.long r), .second, .val (.int k)] [])) _
              refine XS.lload X1.here hx rfl (hb hby d1_37) rfl ?_
              show Steps p.tables e below (T1.setTop (mkF m 39 #[.val (.long q0), .second, .val (.long q1), .second, .val (.int p2), .val (.int p3), .val (.long r), .second, .val (.int k)] [(.long r)])) _
              refine XS.lload X1.here hx rfl (hb hby d1_39) rfl ?_
              show Steps p.tables e below (T1.setTop (mkF m 41 #[.val (.long q0), .second, .val (.long q1), .second, .val (.int p2), .val (.int p3), .val (.long r), .second, .val (.int k)] [(.long r), (.long r)])) _
              refine XS.iload X1.here hx rfl (hb hby d1_41) rfl ?_
              show Steps p.tables e below (T1.setTop (mkF m 43 #[.val (.long q0), .second, .val (.long q1), .second, .val (.int p2), .val (.int p3), .val (.long r), .second, .val (.int k)] [(.int k), (.long r), (.long r)])) _
              refine XS.lushr X1.here hx rfl (hb hby d1_43) rfl ?_
              show Steps p.tables e below (T1.setTop (mkF m 44 #[.val (.long q0), .second, .val (.long q1), .second, .val (.int p2), .val (.int p3), .val (.long r), .second, .val (.int k)] [(.long ((r.toUInt64 >>> (k &&& 0x3f).toInt64.toUInt64).toInt64)), (.long r)])) _
              refine XS.lor X1.here hx rfl (hb hby d1_44) rfl ?_
              show Steps p.tables e below (T1.setTop (mkF m 45 #[.val (.long q0), .second, .val (.long q1), .second, .val (.int p2), .val (.int p3), .val (.long r), .second, .val (.int k)] [(.long (r ||| ((r.toUInt64 >>> (k &&& 0x3f).toInt64.toUInt64).toInt64)))])) _
              refine XS.lstore X1.here hx rfl (hb hby d1_45) rfl (l' := #[.val (.long q0), .second, .val (.long q1), .second, .val (.int p2), .val (.int p3), .val (.long (r ||| ((r.toUInt64 >>> (k &&& 0x3f).toInt64.toUInt64).toInt64))), .second, .val (.int k)]) rfl ?_
              show Steps p.tables e below (T1.setTop (mkF m 47 #[.val (.long q0), .second, .val (.long q1), .second, .val (.int p2), .val (.int p3), .val (.long (r ||| ((r.toUInt64 >>> (k &&& 0x3f).toInt64.toUInt64).toInt64))), .second, .val (.int k)] [])) _
              refine XS.iload X1.here hx rfl (hb hby d1_47) rfl ?_
              show Steps p.tables e below (T1.setTop (mkF m 49 #[.val (.long q0), .second, .val (.long q1), .second, .val (.int p2), .val (.int p3), .val (.long (r ||| ((r.toUInt64 >>> (k &&& 0x3f).toInt64.toUInt64).toInt64))), .second, .val (.int k)] [(.int k)])) _
              refine XS.iconst X1.here hx rfl (hb hby d1_49) ?_
              show Steps p.tables e below (T1.setTop (mkF m 50 #[.val (.long q0), .second, .val (.long q1), .second, .val (.int p2), .val (.int p3), .val (.long (r ||| ((r.toUInt64 >>> (k &&& 0x3f).toInt64.toUInt64).toInt64))), .second, .val (.int k)] [(.int (2 : Int32)), (.int k)])) _
              refine XS.idiv X1.here hx rfl (hb hby d1_50) rfl (by decide) ?_
              show Steps p.tables e below (T1.setTop (mkF m 51 #[.val (.long q0), .second, .val (.long q1), .second, .val (.int p2), .val (.int p3), .val (.long (r ||| ((r.toUInt64 >>> (k &&& 0x3f).toInt64.toUInt64).toInt64))), .second, .val (.int k)] [(.int (k / (2 : Int32)))])) _
              refine XS.istore X1.here hx rfl (hb hby d1_51) rfl (l' := #[.val (.long q0), .second, .val (.long q1), .second, .val (.int p2), .val (.int p3), .val (.long (r ||| ((r.toUInt64 >>> (k &&& 0x3f).toInt64.toUInt64).toInt64))), .second, .val (.int (k / (2 : Int32)))]) rfl ?_
              show Steps p.tables e below (T1.setTop (mkF m 53 #[.val (.long q0), .second, .val (.long q1), .second, .val (.int p2), .val (.int p3), .val (.long (r ||| ((r.toUInt64 >>> (k &&& 0x3f).toInt64.toUInt64).toInt64))), .second, .val (.int (k / (2 : Int32)))] [])) _
              refine XS.goto X1.here hx rfl (pc0 := 53) (pc' := 16) rfl (hb hby d1_53) (by decide) (by decide) ?_
              exact hk' t kt)⟩
        · have ef : stepV p3 r k = (r &&& ((r.toUInt64 >>> (k &&& 0x3f).toInt64.toUInt64).toInt64)) := by rw [stepV, if_neg hc23]
          rw [foldV, if_pos hc18, ef]
          obtain ⟨k', hk'⟩ := ih (r &&& ((r.toUInt64 >>> (k &&& 0x3f).toInt64.toUInt64).toInt64)) (k / (2 : Int32)) (own_half n k hc18 hk)
          exact ⟨k', fun t kt => pre4 t (by
              show Steps p.tables e below (T1.setTop (mkF m 23 #[.val (.long q0), .second, .val (.long q1), .second, .val (.int p2), .val (.int p3), .val (.long r), .second, .val (.int k)] [(.int p3)])) _
              refine XS.ifNo X1.here hx rfl (hb hby d1_23) rfl ((if0 _ _).trans (feq (show ¬ (p3 = (0 : Int32)) from hc23)).1) ?_
              show Steps p.tables e below (T1.setTop (mkF m 26 #[.val (.long q0), .second, .val (.long q1), .second, .val (.int p2), .val (.int p3), .val (.long r), .second, .val (.int k)] [])) _
              refine XS.lload X1.here hx rfl (hb hby d1_26) rfl ?_
              show Steps p.tables e below (T1.setTop (mkF m 28 #[.val (.long q0), .second, .val (.long q1), .second, .val (.int p2), .val (.int p3), .val (.long r), .second, .val (.int k)] [(.long r)])) _
              refine XS.lload X1.here hx rfl (hb hby d1_28) rfl ?_
              show Steps p.tables e below (T1.setTop (mkF m 30 #[.val (.long q0), .second, .val (.long q1), .second, .val (.int p2), .val (.int p3), .val (.long r), .second, .val (.int k)] [(.long r), (.long r)])) _
              refine XS.iload X1.here hx rfl (hb hby d1_30) rfl ?_
              show Steps p.tables e below (T1.setTop (mkF m 32 #[.val (.long q0), .second, .val (.long q1), .second, .val (.int p2), .val (.int p3), .val (.long r), .second, .val (.int k)] [(.int k), (.long r), (.long r)])) _
              refine XS.lushr X1.here hx rfl (hb hby d1_32) rfl ?_
              show Steps p.tables e below (T1.setTop (mkF m 33 #[.val (.long q0), .second, .val (.long q1), .second, .val (.int p2), .val (.int p3), .val (.long r), .second, .val (.int k)] [(.long ((r.toUInt64 >>> (k &&& 0x3f).toInt64.toUInt64).toInt64)), (.long r)])) _
              refine XS.land X1.here hx rfl (hb hby d1_33) rfl ?_
              show Steps p.tables e below (T1.setTop (mkF m 34 #[.val (.long q0), .second, .val (.long q1), .second, .val (.int p2), .val (.int p3), .val (.long r), .second, .val (.int k)] [(.long (r &&& ((r.toUInt64 >>> (k &&& 0x3f).toInt64.toUInt64).toInt64)))])) _
              refine XS.goto X1.here hx rfl (pc0 := 34) (pc' := 45) rfl (hb hby d1_34) (by decide) (by decide) ?_
              show Steps p.tables e below (T1.setTop (mkF m 45 #[.val (.long q0), .second, .val (.long q1), .second, .val (.int p2), .val (.int p3), .val (.long r), .second, .val (.int k)] [(.long (r &&& ((r.toUInt64 >>> (k &&& 0x3f).toInt64.toUInt64).toInt64)))])) _
              refine XS.lstore X1.here hx rfl (hb hby d1_45) rfl (l' := #[.val (.long q0), .second, .val (.long q1), .second, .val (.int p2), .val (.int p3), .val (.long (r &&& ((r.toUInt64 >>> (k &&& 0x3f).toInt64.toUInt64).toInt64))), .second, .val (.int k)]) rfl ?_
              show Steps p.tables e below (T1.setTop (mkF m 47 #[.val (.long q0), .second, .val (.long q1), .second, .val (.int p2), .val (.int p3), .val (.long (r &&& ((r.toUInt64 >>> (k &&& 0x3f).toInt64.toUInt64).toInt64))), .second, .val (.int k)] [])) _
              refine XS.iload X1.here hx rfl (hb hby d1_47) rfl ?_
              show Steps p.tables e below (T1.setTop (mkF m 49 #[.val (.long q0), .second, .val (.long q1), .second, .val (.int p2), .val (.int p3), .val (.long (r &&& ((r.toUInt64 >>> (k &&& 0x3f).toInt64.toUInt64).toInt64))), .second, .val (.int k)] [(.int k)])) _
              refine XS.iconst X1.here hx rfl (hb hby d1_49) ?_
              show Steps p.tables e below (T1.setTop (mkF m 50 #[.val (.long q0), .second, .val (.long q1), .second, .val (.int p2), .val (.int p3), .val (.long (r &&& ((r.toUInt64 >>> (k &&& 0x3f).toInt64.toUInt64).toInt64))), .second, .val (.int k)] [(.int (2 : Int32)), (.int k)])) _
              refine XS.idiv X1.here hx rfl (hb hby d1_50) rfl (by decide) ?_
              show Steps p.tables e below (T1.setTop (mkF m 51 #[.val (.long q0), .second, .val (.long q1), .second, .val (.int p2), .val (.int p3), .val (.long (r &&& ((r.toUInt64 >>> (k &&& 0x3f).toInt64.toUInt64).toInt64))), .second, .val (.int k)] [(.int (k / (2 : Int32)))])) _
              refine XS.istore X1.here hx rfl (hb hby d1_51) rfl (l' := #[.val (.long q0), .second, .val (.long q1), .second, .val (.int p2), .val (.int p3), .val (.long (r &&& ((r.toUInt64 >>> (k &&& 0x3f).toInt64.toUInt64).toInt64))), .second, .val (.int (k / (2 : Int32)))]) rfl ?_
              show Steps p.tables e below (T1.setTop (mkF m 53 #[.val (.long q0), .second, .val (.long q1), .second, .val (.int p2), .val (.int p3), .val (.long (r &&& ((r.toUInt64 >>> (k &&& 0x3f).toInt64.toUInt64).toInt64))), .second, .val (.int (k / (2 : Int32)))] [])) _
              refine XS.goto X1.here hx rfl (pc0 := 53) (pc' := 16) rfl (hb hby d1_53) (by decide) (by decide) ?_
              exact hk' t kt)⟩
      · rw [foldV, if_neg hc18]
        exact ⟨k, fun t kt => pre3 t (by
            show Steps p.tables e below (T1.setTop (mkF m 18 #[.val (.long q0), .second, .val (.long q1), .second, .val (.int p2), .val (.int p3), .val (.long r), .second, .val (.int k)] [(.int k)])) _
            refine XS.ifYes X1.here hx rfl (pc0 := 18) (pc' := 56) rfl (hb hby d1_18) rfl ((if0 _ _).trans (flt (show ¬ ((0 : Int32) < k) from hc18)).2.2.2) (by decide) (by decide) ?_
            exact kt)⟩
  obtain ⟨kf, hloop⟩ := loop 31 ((q0.toUInt64 >>> ((shiftV q1 p2) &&& 0x3f).toInt64.toUInt64).toInt64) (p2 / (2 : Int32)) (Int32.toInt_lt _)
  have pre5 : ∀ t, Steps p.tables e below (T1.setTop (mkF m 56 #[.val (.long q0), .second, .val (.long q1), .second, .val (.int p2), .val (.int p3), .val (.long (foldV p3 31 ((q0.toUInt64 >>> ((shiftV q1 p2) &&& 0x3f).toInt64.toUInt64).toInt64) (p2 / (2 : Int32)))), .second, .val (.int kf)] [])) t → Steps p.tables e below (s₁.setTop (entryFrame m #[(.long q0), (.long q1), (.int p2), (.int p3)] 9)) t := fun t kt => pre2 t (hloop t kt)
  obtain ⟨fs, hr, hrun, hended, hW, hsame⟩ := X1.leave (v := some (.long (foldV p3 31 ((q0.toUInt64 >>> ((shiftV q1 p2) &&& 0x3f).toInt64.toUInt64).toInt64) (p2 / (2 : Int32))))) (fun h => by rw [Bd.returns] at h; cases h)
  refine ⟨_, _, pre5 _ ?_, hrun, hended, _, _, rfl, ?_, ⟨_, rfl⟩, hW, hsame.mono (by decide) (by decide)⟩
  · show Steps p.tables e below (T1.setTop (mkF m 56 #[.val (.long q0), .second, .val (.long q1), .second, .val (.int p2), .val (.int p3), .val (.long (foldV p3 31 ((q0.toUInt64 >>> ((shiftV q1 p2) &&& 0x3f).toInt64.toUInt64).toInt64) (p2 / (2 : Int32)))), .second, .val (.int kf)] [])) _
    refine XS.lload X1.here hx rfl (hb hby d1_56) rfl ?_
    show Steps p.tables e below (T1.setTop (mkF m 58 #[.val (.long q0), .second, .val (.long q1), .second, .val (.int p2), .val (.int p3), .val (.long (foldV p3 31 ((q0.toUInt64 >>> ((shiftV q1 p2) &&& 0x3f).toInt64.toUInt64).toInt64) (p2 / (2 : Int32)))), .second, .val (.int kf)] [(.long (foldV p3 31 ((q0.toUInt64 >>> ((shiftV q1 p2) &&& 0x3f).toInt64.toUInt64).toInt64) (p2 / (2 : Int32))))])) _
    exact retOut X1 hx (t := .long) (i := .lreturn) Bd.returns rfl (Or.inr (Or.inl ⟨rfl, rfl, _, rfl⟩)) (hb hby d1_58) hr
  · show Q1 q0 q1 p2 p3 h0 n0 _ T1.heap _
    rw [e1]
    exact ⟨rfl, N1, rfl⟩
theorem pn_1 : plainName "com/example/bitsieve/bitsieve/filter/WordsTestPinLaw" = true := by first | (simp [plainName, overriddenIn]; done) | decide +kernel
theorem pd_1 : parseMethodDescriptor "(JJIZ)J" = some ⟨[.long, .long, .int, .boolean], some .long⟩ := by decide +kernel
theorem ef_0 (m : MethodId) (q0 : Int64) (q1 : Int64) (p2 : Int32) (p3 : Int32) : entryFrame m #[(.long q0), (.long q1), (.int p2), (.int p3)] maxLocals = mkF m 0 #[.val (.long q0), .second, .val (.long q1), .second, .val (.int p2), .val (.int p3), .unset, .unset, .unset, .unset, .unset, .unset, .unset, .unset, .unset, .unset, .unset, .unset, .unset] [] := by first | (simp [entryFrame, mkF, argsToLocals, Value.category, maxLocals]; done) | rfl
def Q0 (h0 : Heap) (n0 : Nat) (v : Option Value) (h : Heap) (L : List Loc) : Prop := v = some (.int 1) ∧ Fr n0 L
set_option maxRecDepth 65536 in
set_option maxHeartbeats 40000000 in
theorem rm0 (l : Launch) (Z : State) (a0 : Array Value) (hw : ∀ d ∈ tables_1, d.before a0 Z = true) (ws : List Jvm.Cond) (q0 q1 : Int64) (p2 p3 : Int32) (h0 : Heap) (n0 : Nat) (Z0 : n0 ≤ h0.size)  :
    MetFree l x (head1 (Jvm.Cond.code x code maxLocals ret :: ws) room_1) (fun a U => a = #[(.long q0), (.long q1), (.int p2), (.int p3)] ∧ Z.Warmed39 U.vm ∧ U.heap = h0) (fun _ _ _ _ _ => True) (fun _ U o U' => ∃ v L, o = .returned v ∧ Q0 h0 n0 v U'.heap L ∧ FrameEnd U o U' L 0 0) := by
  refine MetFree.of_bodySF (plainFor_of_name pn_1) hisR ?_
  intro p e s m args below meth c s₁ Bd hml0 hP hK
  obtain ⟨rfl, hZ, hh⟩ := hP
  have hx := Bd.exec
  have hby := Bd.bytes
  have hml : c.maxLocals = 19 := hml0
  have hown : s.vm.findClass "com/example/bitsieve/bitsieve/filter/WordsTestPinLaw" = some m.cls := findClass_of_methodNamed Bd.named
  have hnm := (name_of_methodNamed Bd.named Bd.method).1
  have X0 : Stand p l e room_1 s m #[(.long q0), (.long q1), (.int p2), (.int p3)] below meth c s₁ [] 0 0 := Stand.of_body Bd
  have e0 : s₁.heap = h0 := by rw [← hh, Bd.state]; rfl
  have N0 := Fr.nil n0
  have pre0 : ∀ t, Steps p.tables e below (s₁.setTop (mkF m 0 #[.val (.long q0), .second, .val (.long q1), .second, .val (.int p2), .val (.int p3), .unset, .unset, .unset, .unset, .unset, .unset, .unset, .unset, .unset, .unset, .unset, .unset, .unset] [])) t → Steps p.tables e below (s₁.setTop (entryFrame m #[(.long q0), (.long q1), (.int p2), (.int p3)] maxLocals)) t := fun t k => castTop (ef_0 m q0 q1 p2 p3) k
  have pre1 : ∀ t, Steps p.tables e below (s₁.setTop (mkF m 10 #[.val (.long q0), .second, .val (.long q1), .second, .val (.int p2), .val (.int p3), .val (.int ((p2 &&& (2147483647 : Int32)) - ((p2 &&& (2147483647 : Int32)) / (7 : Int32)) * (7 : Int32))), .unset, .unset, .unset, .unset, .unset, .unset, .unset, .unset, .unset, .unset, .unset, .unset] [])) t → Steps p.tables e below (s₁.setTop (entryFrame m #[(.long q0), (.long q1), (.int p2), (.int p3)] maxLocals)) t := fun t kt => pre0 t (by
      show Steps p.tables e below (s₁.setTop (mkF m 0 #[.val (.long q0), .second, .val (.long q1), .second, .val (.int p2), .val (.int p3), .unset, .unset, .unset, .unset, .unset, .unset, .unset, .unset, .unset, .unset, .unset, .unset, .unset] [])) _
      refine XS.iload X0.here hx rfl (hb hby at_0) rfl ?_
      show Steps p.tables e below (s₁.setTop (mkF m 2 #[.val (.long q0), .second, .val (.long q1), .second, .val (.int p2), .val (.int p3), .unset, .unset, .unset, .unset, .unset, .unset, .unset, .unset, .unset, .unset, .unset, .unset, .unset] [(.int p2)])) _
      refine X0.ldcI hx hown (mvT hZ (hw _ (List.mem_of_getElem? (i := 0) rfl))) (g := (mkF m 2 #[.val (.long q0), .second, .val (.long q1), .second, .val (.int p2), .val (.int p3), .unset, .unset, .unset, .unset, .unset, .unset, .unset, .unset, .unset, .unset, .unset, .unset, .unset] [(.int p2)])) rfl (hb hby at_2) ?_
      show Steps p.tables e below (s₁.setTop (mkF m 4 #[.val (.long q0), .second, .val (.long q1), .second, .val (.int p2), .val (.int p3), .unset, .unset, .unset, .unset, .unset, .unset, .unset, .unset, .unset, .unset, .unset, .unset, .unset] [(.int (2147483647 : Int32)), (.int p2)])) _
      refine XS.iand X0.here hx rfl (hb hby at_4) rfl ?_
      show Steps p.tables e below (s₁.setTop (mkF m 5 #[.val (.long q0), .second, .val (.long q1), .second, .val (.int p2), .val (.int p3), .unset, .unset, .unset, .unset, .unset, .unset, .unset, .unset, .unset, .unset, .unset, .unset, .unset] [(.int (p2 &&& (2147483647 : Int32)))])) _
      refine XS.bipush X0.here hx rfl (hb hby at_5) ?_
      show Steps p.tables e below (s₁.setTop (mkF m 7 #[.val (.long q0), .second, .val (.long q1), .second, .val (.int p2), .val (.int p3), .unset, .unset, .unset, .unset, .unset, .unset, .unset, .unset, .unset, .unset, .unset, .unset, .unset] [(.int (7 : Int32)), (.int (p2 &&& (2147483647 : Int32)))])) _
      refine XS.irem X0.here hx rfl (hb hby at_7) rfl (by decide) ?_
      show Steps p.tables e below (s₁.setTop (mkF m 8 #[.val (.long q0), .second, .val (.long q1), .second, .val (.int p2), .val (.int p3), .unset, .unset, .unset, .unset, .unset, .unset, .unset, .unset, .unset, .unset, .unset, .unset, .unset] [(.int ((p2 &&& (2147483647 : Int32)) - ((p2 &&& (2147483647 : Int32)) / (7 : Int32)) * (7 : Int32)))])) _
      refine XS.istore X0.here hx rfl (hb hby at_8) rfl (l' := #[.val (.long q0), .second, .val (.long q1), .second, .val (.int p2), .val (.int p3), .val (.int ((p2 &&& (2147483647 : Int32)) - ((p2 &&& (2147483647 : Int32)) / (7 : Int32)) * (7 : Int32))), .unset, .unset, .unset, .unset, .unset, .unset, .unset, .unset, .unset, .unset, .unset, .unset]) rfl ?_
      exact kt)
  obtain ⟨ex, hex⟩ : ∃ z : Int32, z = ((p2 &&& (2147483647 : Int32)) - ((p2 &&& (2147483647 : Int32)) / (7 : Int32)) * (7 : Int32)) := ⟨_, rfl⟩
  rw [← hex] at pre1
  have pre2 : ∀ t, Steps p.tables e below (s₁.setTop (mkF m 16 #[.val (.long q0), .second, .val (.long q1), .second, .val (.int p2), .val (.int p3), .val (.int ex), .val (.int ((1 : Int32) <<< (ex &&& 31))), .unset, .unset, .unset, .unset, .unset, .unset, .unset, .unset, .unset, .unset, .unset] [])) t → Steps p.tables e below (s₁.setTop (entryFrame m #[(.long q0), (.long q1), (.int p2), (.int p3)] maxLocals)) t := fun t kt => pre1 t (by
      show Steps p.tables e below (s₁.setTop (mkF m 10 #[.val (.long q0), .second, .val (.long q1), .second, .val (.int p2), .val (.int p3), .val (.int ex), .unset, .unset, .unset, .unset, .unset, .unset, .unset, .unset, .unset, .unset, .unset, .unset] [])) _
      refine XS.iconst X0.here hx rfl (hb hby at_10) ?_
      show Steps p.tables e below (s₁.setTop (mkF m 11 #[.val (.long q0), .second, .val (.long q1), .second, .val (.int p2), .val (.int p3), .val (.int ex), .unset, .unset, .unset, .unset, .unset, .unset, .unset, .unset, .unset, .unset, .unset, .unset] [(.int (1 : Int32))])) _
      refine XS.iload X0.here hx rfl (hb hby at_11) rfl ?_
      show Steps p.tables e below (s₁.setTop (mkF m 13 #[.val (.long q0), .second, .val (.long q1), .second, .val (.int p2), .val (.int p3), .val (.int ex), .unset, .unset, .unset, .unset, .unset, .unset, .unset, .unset, .unset, .unset, .unset, .unset] [(.int ex), (.int (1 : Int32))])) _
      refine XS.ishl X0.here hx rfl (hb hby at_13) rfl ?_
      show Steps p.tables e below (s₁.setTop (mkF m 14 #[.val (.long q0), .second, .val (.long q1), .second, .val (.int p2), .val (.int p3), .val (.int ex), .unset, .unset, .unset, .unset, .unset, .unset, .unset, .unset, .unset, .unset, .unset, .unset] [(.int ((1 : Int32) <<< (ex &&& 31)))])) _
      refine XS.istore X0.here hx rfl (hb hby at_14) rfl (l' := #[.val (.long q0), .second, .val (.long q1), .second, .val (.int p2), .val (.int p3), .val (.int ex), .val (.int ((1 : Int32) <<< (ex &&& 31))), .unset, .unset, .unset, .unset, .unset, .unset, .unset, .unset, .unset, .unset, .unset]) rfl ?_
      exact kt)
  obtain ⟨pb, hpb⟩ : ∃ z : Int32, z = ((1 : Int32) <<< (ex &&& 31)) := ⟨_, rfl⟩
  rw [← hpb] at pre2
  have hpb0 : pb ≠ 0 := by rw [hpb, hex]; exact own_pb0 (exV p2) (own_ex p2)
  obtain ⟨fl, hfl, pre4⟩ : ∃ fl : Int32, fl = (if (p3 &&& (1 : Int32)) = (0 : Int32) then (0 : Int32) else 1) ∧ ∀ t, Steps p.tables e below (s₁.setTop (mkF m 28 #[.val (.long q0), .second, .val (.long q1), .second, .val (.int p2), .val (.int p3), .val (.int ex), .val (.int pb), .unset, .unset, .unset, .unset, .unset, .unset, .unset, .unset, .unset, .unset, .unset] [(.int fl)])) t → Steps p.tables e below (s₁.setTop (entryFrame m #[(.long q0), (.long q1), (.int p2), (.int p3)] maxLocals)) t := by
    have pre3 : ∀ t, Steps p.tables e below (s₁.setTop (mkF m 20 #[.val (.long q0), .second, .val (.long q1), .second, .val (.int p2), .val (.int p3), .val (.int ex), .val (.int pb), .unset, .unset, .unset, .unset, .unset, .unset, .unset, .unset, .unset, .unset, .unset] [(.int (p3 &&& (1 : Int32)))])) t → Steps p.tables e below (s₁.setTop (entryFrame m #[(.long q0), (.long q1), (.int p2), (.int p3)] maxLocals)) t := fun t kt => pre2 t (by
        show Steps p.tables e below (s₁.setTop (mkF m 16 #[.val (.long q0), .second, .val (.long q1), .second, .val (.int p2), .val (.int p3), .val (.int ex), .val (.int pb), .unset, .unset, .unset, .unset, .unset, .unset, .unset, .unset, .unset, .unset, .unset] [])) _
        refine XS.iload X0.here hx rfl (hb hby at_16) rfl ?_
        show Steps p.tables e below (s₁.setTop (mkF m 18 #[.val (.long q0), .second, .val (.long q1), .second, .val (.int p2), .val (.int p3), .val (.int ex), .val (.int pb), .unset, .unset, .unset, .unset, .unset, .unset, .unset, .unset, .unset, .unset, .unset] [(.int p3)])) _
        refine XS.iconst X0.here hx rfl (hb hby at_18) ?_
        show Steps p.tables e below (s₁.setTop (mkF m 19 #[.val (.long q0), .second, .val (.long q1), .second, .val (.int p2), .val (.int p3), .val (.int ex), .val (.int pb), .unset, .unset, .unset, .unset, .unset, .unset, .unset, .unset, .unset, .unset, .unset] [(.int (1 : Int32)), (.int p3)])) _
        refine XS.iand X0.here hx rfl (hb hby at_19) rfl ?_
        exact kt)
    by_cases hc20 : (p3 &&& (1 : Int32)) = (0 : Int32)
    · exact ⟨(0 : Int32), (by rw [if_pos hc20]), fun t kt => pre3 t (by
          show Steps p.tables e below (s₁.setTop (mkF m 20 #[.val (.long q0), .second, .val (.long q1), .second, .val (.int p2), .val (.int p3), .val (.int ex), .val (.int pb), .unset, .unset, .unset, .unset, .unset, .unset, .unset, .unset, .unset, .unset, .unset] [(.int (p3 &&& (1 : Int32)))])) _
          refine XS.ifYes X0.here hx rfl (pc0 := 20) (pc' := 27) rfl (hb hby at_20) rfl ((if0 _ _).trans (teq (show (p3 &&& (1 : Int32)) = (0 : Int32) from hc20)).1) (by decide) (by decide) ?_
          show Steps p.tables e below (s₁.setTop (mkF m 27 #[.val (.long q0), .second, .val (.long q1), .second, .val (.int p2), .val (.int p3), .val (.int ex), .val (.int pb), .unset, .unset, .unset, .unset, .unset, .unset, .unset, .unset, .unset, .unset, .unset] [])) _
          refine XS.iconst X0.here hx rfl (hb hby at_27) ?_
          exact kt)⟩
    · exact ⟨(1 : Int32), (by rw [if_neg hc20]), fun t kt => pre3 t (by
          show Steps p.tables e below (s₁.setTop (mkF m 20 #[.val (.long q0), .second, .val (.long q1), .second, .val (.int p2), .val (.int p3), .val (.int ex), .val (.int pb), .unset, .unset, .unset, .unset, .unset, .unset, .unset, .unset, .unset, .unset, .unset] [(.int (p3 &&& (1 : Int32)))])) _
          refine XS.ifNo X0.here hx rfl (hb hby at_20) rfl ((if0 _ _).trans (feq (show ¬ ((p3 &&& (1 : Int32)) = (0 : Int32)) from hc20)).1) ?_
          show Steps p.tables e below (s₁.setTop (mkF m 23 #[.val (.long q0), .second, .val (.long q1), .second, .val (.int p2), .val (.int p3), .val (.int ex), .val (.int pb), .unset, .unset, .unset, .unset, .unset, .unset, .unset, .unset, .unset, .unset, .unset] [])) _
          refine XS.iconst X0.here hx rfl (hb hby at_23) ?_
          show Steps p.tables e below (s₁.setTop (mkF m 24 #[.val (.long q0), .second, .val (.long q1), .second, .val (.int p2), .val (.int p3), .val (.int ex), .val (.int pb), .unset, .unset, .unset, .unset, .unset, .unset, .unset, .unset, .unset, .unset, .unset] [(.int (1 : Int32))])) _
          refine XS.goto X0.here hx rfl (pc0 := 24) (pc' := 28) rfl (hb hby at_24) (by decide) (by decide) ?_
          exact kt)⟩
  have pre5 : ∀ t, Steps p.tables e below (s₁.setTop (mkF m 50 #[.val (.long q0), .second, .val (.long q1), .second, .val (.int p2), .val (.int p3), .val (.int ex), .val (.int pb), .val (.int fl), .val (.int ((64 : Int32) / pb)), .val (.int (((q1 &&& ((((64 : Int32) / pb) - (1 : Int32)).toInt64)).toInt32) * pb)), .unset, .unset, .unset, .unset, .unset, .unset, .unset, .unset] [])) t → Steps p.tables e below (s₁.setTop (entryFrame m #[(.long q0), (.long q1), (.int p2), (.int p3)] maxLocals)) t := fun t kt => pre4 t (by
      show Steps p.tables e below (s₁.setTop (mkF m 28 #[.val (.long q0), .second, .val (.long q1), .second, .val (.int p2), .val (.int p3), .val (.int ex), .val (.int pb), .unset, .unset, .unset, .unset, .unset, .unset, .unset, .unset, .unset, .unset, .unset] [(.int fl)])) _
      refine XS.istore X0.here hx rfl (hb hby at_28) rfl (l' := #[.val (.long q0), .second, .val (.long q1), .second, .val (.int p2), .val (.int p3), .val (.int ex), .val (.int pb), .val (.int fl), .unset, .unset, .unset, .unset, .unset, .unset, .unset, .unset, .unset, .unset]) rfl ?_
      show Steps p.tables e below (s₁.setTop (mkF m 30 #[.val (.long q0), .second, .val (.long q1), .second, .val (.int p2), .val (.int p3), .val (.int ex), .val (.int pb), .val (.int fl), .unset, .unset, .unset, .unset, .unset, .unset, .unset, .unset, .unset, .unset] [])) _
      refine XS.bipush X0.here hx rfl (hb hby at_30) ?_
      show Steps p.tables e below (s₁.setTop (mkF m 32 #[.val (.long q0), .second, .val (.long q1), .second, .val (.int p2), .val (.int p3), .val (.int ex), .val (.int pb), .val (.int fl), .unset, .unset, .unset, .unset, .unset, .unset, .unset, .unset, .unset, .unset] [(.int (64 : Int32))])) _
      refine XS.iload X0.here hx rfl (hb hby at_32) rfl ?_
      show Steps p.tables e below (s₁.setTop (mkF m 34 #[.val (.long q0), .second, .val (.long q1), .second, .val (.int p2), .val (.int p3), .val (.int ex), .val (.int pb), .val (.int fl), .unset, .unset, .unset, .unset, .unset, .unset, .unset, .unset, .unset, .unset] [(.int pb), (.int (64 : Int32))])) _
      refine XS.idiv X0.here hx rfl (hb hby at_34) rfl hpb0 ?_
      show Steps p.tables e below (s₁.setTop (mkF m 35 #[.val (.long q0), .second, .val (.long q1), .second, .val (.int p2), .val (.int p3), .val (.int ex), .val (.int pb), .val (.int fl), .unset, .unset, .unset, .unset, .unset, .unset, .unset, .unset, .unset, .unset] [(.int ((64 : Int32) / pb))])) _
      refine XS.istore X0.here hx rfl (hb hby at_35) rfl (l' := #[.val (.long q0), .second, .val (.long q1), .second, .val (.int p2), .val (.int p3), .val (.int ex), .val (.int pb), .val (.int fl), .val (.int ((64 : Int32) / pb)), .unset, .unset, .unset, .unset, .unset, .unset, .unset, .unset, .unset]) rfl ?_
      show Steps p.tables e below (s₁.setTop (mkF m 37 #[.val (.long q0), .second, .val (.long q1), .second, .val (.int p2), .val (.int p3), .val (.int ex), .val (.int pb), .val (.int fl), .val (.int ((64 : Int32) / pb)), .unset, .unset, .unset, .unset, .unset, .unset, .unset, .unset, .unset] [])) _
      refine XS.lloadN X0.here hx rfl (hb hby at_37) rfl ?_
      show Steps p.tables e below (s₁.setTop (mkF m 38 #[.val (.long q0), .second, .val (.long q1), .second, .val (.int p2), .val (.int p3), .val (.int ex), .val (.int pb), .val (.int fl), .val (.int ((64 : Int32) / pb)), .unset, .unset, .unset, .unset, .unset, .unset, .unset, .unset, .unset] [(.long q1)])) _
      refine XS.iload X0.here hx rfl (hb hby at_38) rfl ?_
      show Steps p.tables e below (s₁.setTop (mkF m 40 #[.val (.long q0), .second, .val (.long q1), .second, .val (.int p2), .val (.int p3), .val (.int ex), .val (.int pb), .val (.int fl), .val (.int ((64 : Int32) / pb)), .unset, .unset, .unset, .unset, .unset, .unset, .unset, .unset, .unset] [(.int ((64 : Int32) / pb)), (.long q1)])) _
      refine XS.iconst X0.here hx rfl (hb hby at_40) ?_
      show Steps p.tables e below (s₁.setTop (mkF m 41 #[.val (.long q0), .second, .val (.long q1), .second, .val (.int p2), .val (.int p3), .val (.int ex), .val (.int pb), .val (.int fl), .val (.int ((64 : Int32) / pb)), .unset, .unset, .unset, .unset, .unset, .unset, .unset, .unset, .unset] [(.int (1 : Int32)), (.int ((64 : Int32) / pb)), (.long q1)])) _
      refine XS.isub X0.here hx rfl (hb hby at_41) rfl ?_
      show Steps p.tables e below (s₁.setTop (mkF m 42 #[.val (.long q0), .second, .val (.long q1), .second, .val (.int p2), .val (.int p3), .val (.int ex), .val (.int pb), .val (.int fl), .val (.int ((64 : Int32) / pb)), .unset, .unset, .unset, .unset, .unset, .unset, .unset, .unset, .unset] [(.int (((64 : Int32) / pb) - (1 : Int32))), (.long q1)])) _
      refine XS.i2l X0.here hx rfl (hb hby at_42) rfl ?_
      show Steps p.tables e below (s₁.setTop (mkF m 43 #[.val (.long q0), .second, .val (.long q1), .second, .val (.int p2), .val (.int p3), .val (.int ex), .val (.int pb), .val (.int fl), .val (.int ((64 : Int32) / pb)), .unset, .unset, .unset, .unset, .unset, .unset, .unset, .unset, .unset] [(.long ((((64 : Int32) / pb) - (1 : Int32)).toInt64)), (.long q1)])) _
      refine XS.land X0.here hx rfl (hb hby at_43) rfl ?_
      show Steps p.tables e below (s₁.setTop (mkF m 44 #[.val (.long q0), .second, .val (.long q1), .second, .val (.int p2), .val (.int p3), .val (.int ex), .val (.int pb), .val (.int fl), .val (.int ((64 : Int32) / pb)), .unset, .unset, .unset, .unset, .unset, .unset, .unset, .unset, .unset] [(.long (q1 &&& ((((64 : Int32) / pb) - (1 : Int32)).toInt64)))])) _
      refine XS.l2i X0.here hx rfl (hb hby at_44) rfl ?_
      show Steps p.tables e below (s₁.setTop (mkF m 45 #[.val (.long q0), .second, .val (.long q1), .second, .val (.int p2), .val (.int p3), .val (.int ex), .val (.int pb), .val (.int fl), .val (.int ((64 : Int32) / pb)), .unset, .unset, .unset, .unset, .unset, .unset, .unset, .unset, .unset] [(.int ((q1 &&& ((((64 : Int32) / pb) - (1 : Int32)).toInt64)).toInt32))])) _
      refine XS.iload X0.here hx rfl (hb hby at_45) rfl ?_
      show Steps p.tables e below (s₁.setTop (mkF m 47 #[.val (.long q0), .second, .val (.long q1), .second, .val (.int p2), .val (.int p3), .val (.int ex), .val (.int pb), .val (.int fl), .val (.int ((64 : Int32) / pb)), .unset, .unset, .unset, .unset, .unset, .unset, .unset, .unset, .unset] [(.int pb), (.int ((q1 &&& ((((64 : Int32) / pb) - (1 : Int32)).toInt64)).toInt32))])) _
      refine XS.imul X0.here hx rfl (hb hby at_47) rfl ?_
      show Steps p.tables e below (s₁.setTop (mkF m 48 #[.val (.long q0), .second, .val (.long q1), .second, .val (.int p2), .val (.int p3), .val (.int ex), .val (.int pb), .val (.int fl), .val (.int ((64 : Int32) / pb)), .unset, .unset, .unset, .unset, .unset, .unset, .unset, .unset, .unset] [(.int (((q1 &&& ((((64 : Int32) / pb) - (1 : Int32)).toInt64)).toInt32) * pb))])) _
      refine XS.istore X0.here hx rfl (hb hby at_48) rfl (l' := #[.val (.long q0), .second, .val (.long q1), .second, .val (.int p2), .val (.int p3), .val (.int ex), .val (.int pb), .val (.int fl), .val (.int ((64 : Int32) / pb)), .val (.int (((q1 &&& ((((64 : Int32) / pb) - (1 : Int32)).toInt64)).toInt32) * pb)), .unset, .unset, .unset, .unset, .unset, .unset, .unset, .unset]) rfl ?_
      exact kt)
  obtain ⟨mk, hmk, pre7⟩ : ∃ mk : Int64, mk = (maskV pb) ∧ ∀ t, Steps p.tables e below (s₁.setTop (mkF m 69 #[.val (.long q0), .second, .val (.long q1), .second, .val (.int p2), .val (.int p3), .val (.int ex), .val (.int pb), .val (.int fl), .val (.int ((64 : Int32) / pb)), .val (.int (((q1 &&& ((((64 : Int32) / pb) - (1 : Int32)).toInt64)).toInt32) * pb)), .unset, .unset, .unset, .unset, .unset, .unset, .unset, .unset] [(.long mk)])) t → Steps p.tables e below (s₁.setTop (entryFrame m #[(.long q0), (.long q1), (.int p2), (.int p3)] maxLocals)) t := by
    have pre6 : ∀ t, Steps p.tables e below (s₁.setTop (mkF m 54 #[.val (.long q0), .second, .val (.long q1), .second, .val (.int p2), .val (.int p3), .val (.int ex), .val (.int pb), .val (.int fl), .val (.int ((64 : Int32) / pb)), .val (.int (((q1 &&& ((((64 : Int32) / pb) - (1 : Int32)).toInt64)).toInt32) * pb)), .unset, .unset, .unset, .unset, .unset, .unset, .unset, .unset] [(.int (64 : Int32)), (.int pb)])) t → Steps p.tables e below (s₁.setTop (entryFrame m #[(.long q0), (.long q1), (.int p2), (.int p3)] maxLocals)) t := fun t kt => pre5 t (by
        show Steps p.tables e below (s₁.setTop (mkF m 50 #[.val (.long q0), .second, .val (.long q1), .second, .val (.int p2), .val (.int p3), .val (.int ex), .val (.int pb), .val (.int fl), .val (.int ((64 : Int32) / pb)), .val (.int (((q1 &&& ((((64 : Int32) / pb) - (1 : Int32)).toInt64)).toInt32) * pb)), .unset, .unset, .unset, .unset, .unset, .unset, .unset, .unset] [])) _
        refine XS.iload X0.here hx rfl (hb hby at_50) rfl ?_
        show Steps p.tables e below (s₁.setTop (mkF m 52 #[.val (.long q0), .second, .val (.long q1), .second, .val (.int p2), .val (.int p3), .val (.int ex), .val (.int pb), .val (.int fl), .val (.int ((64 : Int32) / pb)), .val (.int (((q1 &&& ((((64 : Int32) / pb) - (1 : Int32)).toInt64)).toInt32) * pb)), .unset, .unset, .unset, .unset, .unset, .unset, .unset, .unset] [(.int pb)])) _
        refine XS.bipush X0.here hx rfl (hb hby at_52) ?_
        exact kt)
    by_cases hc54 : pb = (64 : Int32)
    · exact ⟨(-1 : Int64), (by rw [maskV, if_pos hc54]), fun t kt => pre6 t (by
          show Steps p.tables e below (s₁.setTop (mkF m 54 #[.val (.long q0), .second, .val (.long q1), .second, .val (.int p2), .val (.int p3), .val (.int ex), .val (.int pb), .val (.int fl), .val (.int ((64 : Int32) / pb)), .val (.int (((q1 &&& ((((64 : Int32) / pb) - (1 : Int32)).toInt64)).toInt32) * pb)), .unset, .unset, .unset, .unset, .unset, .unset, .unset, .unset] [(.int (64 : Int32)), (.int pb)])) _
          refine XS.icmpNo X0.here hx rfl (hb hby at_54) rfl (teq (show pb = (64 : Int32) from hc54)).2 ?_
          show Steps p.tables e below (s₁.setTop (mkF m 57 #[.val (.long q0), .second, .val (.long q1), .second, .val (.int p2), .val (.int p3), .val (.int ex), .val (.int pb), .val (.int fl), .val (.int ((64 : Int32) / pb)), .val (.int (((q1 &&& ((((64 : Int32) / pb) - (1 : Int32)).toInt64)).toInt32) * pb)), .unset, .unset, .unset, .unset, .unset, .unset, .unset, .unset] [])) _
          refine X0.ldc2J hx hown (mvT hZ (hw _ (List.mem_of_getElem? (i := 8) rfl))) (g := (mkF m 57 #[.val (.long q0), .second, .val (.long q1), .second, .val (.int p2), .val (.int p3), .val (.int ex), .val (.int pb), .val (.int fl), .val (.int ((64 : Int32) / pb)), .val (.int (((q1 &&& ((((64 : Int32) / pb) - (1 : Int32)).toInt64)).toInt32) * pb)), .unset, .unset, .unset, .unset, .unset, .unset, .unset, .unset] [])) rfl (hb hby at_57) ?_
          show Steps p.tables e below (s₁.setTop (mkF m 60 #[.val (.long q0), .second, .val (.long q1), .second, .val (.int p2), .val (.int p3), .val (.int ex), .val (.int pb), .val (.int fl), .val (.int ((64 : Int32) / pb)), .val (.int (((q1 &&& ((((64 : Int32) / pb) - (1 : Int32)).toInt64)).toInt32) * pb)), .unset, .unset, .unset, .unset, .unset, .unset, .unset, .unset] [(.long (-1 : Int64))])) _
          refine XS.goto X0.here hx rfl (pc0 := 60) (pc' := 69) rfl (hb hby at_60) (by decide) (by decide) ?_
          exact kt)⟩
    · exact ⟨(((1 : Int64) <<< (pb &&& 0x3f).toInt64) - (1 : Int64)), (by rw [maskV, if_neg hc54]), fun t kt => pre6 t (by
          show Steps p.tables e below (s₁.setTop (mkF m 54 #[.val (.long q0), .second, .val (.long q1), .second, .val (.int p2), .val (.int p3), .val (.int ex), .val (.int pb), .val (.int fl), .val (.int ((64 : Int32) / pb)), .val (.int (((q1 &&& ((((64 : Int32) / pb) - (1 : Int32)).toInt64)).toInt32) * pb)), .unset, .unset, .unset, .unset, .unset, .unset, .unset, .unset] [(.int (64 : Int32)), (.int pb)])) _
          refine XS.icmpYes X0.here hx rfl (pc0 := 54) (pc' := 63) rfl (hb hby at_54) rfl (feq (show ¬ (pb = (64 : Int32)) from hc54)).2 (by decide) (by decide) ?_
          show Steps p.tables e below (s₁.setTop (mkF m 63 #[.val (.long q0), .second, .val (.long q1), .second, .val (.int p2), .val (.int p3), .val (.int ex), .val (.int pb), .val (.int fl), .val (.int ((64 : Int32) / pb)), .val (.int (((q1 &&& ((((64 : Int32) / pb) - (1 : Int32)).toInt64)).toInt32) * pb)), .unset, .unset, .unset, .unset, .unset, .unset, .unset, .unset] [])) _
          refine XS.lconst X0.here hx rfl (hb hby at_63) ?_
          show Steps p.tables e below (s₁.setTop (mkF m 64 #[.val (.long q0), .second, .val (.long q1), .second, .val (.int p2), .val (.int p3), .val (.int ex), .val (.int pb), .val (.int fl), .val (.int ((64 : Int32) / pb)), .val (.int (((q1 &&& ((((64 : Int32) / pb) - (1 : Int32)).toInt64)).toInt32) * pb)), .unset, .unset, .unset, .unset, .unset, .unset, .unset, .unset] [(.long (1 : Int64))])) _
          refine XS.iload X0.here hx rfl (hb hby at_64) rfl ?_
          show Steps p.tables e below (s₁.setTop (mkF m 66 #[.val (.long q0), .second, .val (.long q1), .second, .val (.int p2), .val (.int p3), .val (.int ex), .val (.int pb), .val (.int fl), .val (.int ((64 : Int32) / pb)), .val (.int (((q1 &&& ((((64 : Int32) / pb) - (1 : Int32)).toInt64)).toInt32) * pb)), .unset, .unset, .unset, .unset, .unset, .unset, .unset, .unset] [(.int pb), (.long (1 : Int64))])) _
          refine XS.lshl X0.here hx rfl (hb hby at_66) rfl ?_
          show Steps p.tables e below (s₁.setTop (mkF m 67 #[.val (.long q0), .second, .val (.long q1), .second, .val (.int p2), .val (.int p3), .val (.int ex), .val (.int pb), .val (.int fl), .val (.int ((64 : Int32) / pb)), .val (.int (((q1 &&& ((((64 : Int32) / pb) - (1 : Int32)).toInt64)).toInt32) * pb)), .unset, .unset, .unset, .unset, .unset, .unset, .unset, .unset] [(.long ((1 : Int64) <<< (pb &&& 0x3f).toInt64))])) _
          refine XS.lconst X0.here hx rfl (hb hby at_67) ?_
          show Steps p.tables e below (s₁.setTop (mkF m 68 #[.val (.long q0), .second, .val (.long q1), .second, .val (.int p2), .val (.int p3), .val (.int ex), .val (.int pb), .val (.int fl), .val (.int ((64 : Int32) / pb)), .val (.int (((q1 &&& ((((64 : Int32) / pb) - (1 : Int32)).toInt64)).toInt32) * pb)), .unset, .unset, .unset, .unset, .unset, .unset, .unset, .unset] [(.long (1 : Int64)), (.long ((1 : Int64) <<< (pb &&& 0x3f).toInt64))])) _
          refine XS.lsub X0.here hx rfl (hb hby at_68) rfl ?_
          exact kt)⟩
  have pre8 : ∀ t, Steps p.tables e below (s₁.setTop (mkF m 80 #[.val (.long q0), .second, .val (.long q1), .second, .val (.int p2), .val (.int p3), .val (.int ex), .val (.int pb), .val (.int fl), .val (.int ((64 : Int32) / pb)), .val (.int (((q1 &&& ((((64 : Int32) / pb) - (1 : Int32)).toInt64)).toInt32) * pb)), .val (.long mk), .second, .val (.long (((q0.toUInt64 >>> ((((q1 &&& ((((64 : Int32) / pb) - (1 : Int32)).toInt64)).toInt32) * pb) &&& 0x3f).toInt64.toUInt64).toInt64) &&& mk)), .second, .unset, .unset, .unset, .unset] [])) t → Steps p.tables e below (s₁.setTop (entryFrame m #[(.long q0), (.long q1), (.int p2), (.int p3)] maxLocals)) t := fun t kt => pre7 t (by
      show Steps p.tables e below (s₁.setTop (mkF m 69 #[.val (.long q0), .second, .val (.long q1), .second, .val (.int p2), .val (.int p3), .val (.int ex), .val (.int pb), .val (.int fl), .val (.int ((64 : Int32) / pb)), .val (.int (((q1 &&& ((((64 : Int32) / pb) - (1 : Int32)).toInt64)).toInt32) * pb)), .unset, .unset, .unset, .unset, .unset, .unset, .unset, .unset] [(.long mk)])) _
      refine XS.lstore X0.here hx rfl (hb hby at_69) rfl (l' := #[.val (.long q0), .second, .val (.long q1), .second, .val (.int p2), .val (.int p3), .val (.int ex), .val (.int pb), .val (.int fl), .val (.int ((64 : Int32) / pb)), .val (.int (((q1 &&& ((((64 : Int32) / pb) - (1 : Int32)).toInt64)).toInt32) * pb)), .val (.long mk), .second, .unset, .unset, .unset, .unset, .unset, .unset]) rfl ?_
      show Steps p.tables e below (s₁.setTop (mkF m 71 #[.val (.long q0), .second, .val (.long q1), .second, .val (.int p2), .val (.int p3), .val (.int ex), .val (.int pb), .val (.int fl), .val (.int ((64 : Int32) / pb)), .val (.int (((q1 &&& ((((64 : Int32) / pb) - (1 : Int32)).toInt64)).toInt32) * pb)), .val (.long mk), .second, .unset, .unset, .unset, .unset, .unset, .unset] [])) _
      refine XS.lloadN X0.here hx rfl (hb hby at_71) rfl ?_
      show Steps p.tables e below (s₁.setTop (mkF m 72 #[.val (.long q0), .second, .val (.long q1), .second, .val (.int p2), .val (.int p3), .val (.int ex), .val (.int pb), .val (.int fl), .val (.int ((64 : Int32) / pb)), .val (.int (((q1 &&& ((((64 : Int32) / pb) - (1 : Int32)).toInt64)).toInt32) * pb)), .val (.long mk), .second, .unset, .unset, .unset, .unset, .unset, .unset] [(.long q0)])) _
      refine XS.iload X0.here hx rfl (hb hby at_72) rfl ?_
      show Steps p.tables e below (s₁.setTop (mkF m 74 #[.val (.long q0), .second, .val (.long q1), .second, .val (.int p2), .val (.int p3), .val (.int ex), .val (.int pb), .val (.int fl), .val (.int ((64 : Int32) / pb)), .val (.int (((q1 &&& ((((64 : Int32) / pb) - (1 : Int32)).toInt64)).toInt32) * pb)), .val (.long mk), .second, .unset, .unset, .unset, .unset, .unset, .unset] [(.int (((q1 &&& ((((64 : Int32) / pb) - (1 : Int32)).toInt64)).toInt32) * pb)), (.long q0)])) _
      refine XS.lushr X0.here hx rfl (hb hby at_74) rfl ?_
      show Steps p.tables e below (s₁.setTop (mkF m 75 #[.val (.long q0), .second, .val (.long q1), .second, .val (.int p2), .val (.int p3), .val (.int ex), .val (.int pb), .val (.int fl), .val (.int ((64 : Int32) / pb)), .val (.int (((q1 &&& ((((64 : Int32) / pb) - (1 : Int32)).toInt64)).toInt32) * pb)), .val (.long mk), .second, .unset, .unset, .unset, .unset, .unset, .unset] [(.long ((q0.toUInt64 >>> ((((q1 &&& ((((64 : Int32) / pb) - (1 : Int32)).toInt64)).toInt32) * pb) &&& 0x3f).toInt64.toUInt64).toInt64))])) _
      refine XS.lload X0.here hx rfl (hb hby at_75) rfl ?_
      show Steps p.tables e below (s₁.setTop (mkF m 77 #[.val (.long q0), .second, .val (.long q1), .second, .val (.int p2), .val (.int p3), .val (.int ex), .val (.int pb), .val (.int fl), .val (.int ((64 : Int32) / pb)), .val (.int (((q1 &&& ((((64 : Int32) / pb) - (1 : Int32)).toInt64)).toInt32) * pb)), .val (.long mk), .second, .unset, .unset, .unset, .unset, .unset, .unset] [(.long mk), (.long ((q0.toUInt64 >>> ((((q1 &&& ((((64 : Int32) / pb) - (1 : Int32)).toInt64)).toInt32) * pb) &&& 0x3f).toInt64.toUInt64).toInt64))])) _
      refine XS.land X0.here hx rfl (hb hby at_77) rfl ?_
      show Steps p.tables e below (s₁.setTop (mkF m 78 #[.val (.long q0), .second, .val (.long q1), .second, .val (.int p2), .val (.int p3), .val (.int ex), .val (.int pb), .val (.int fl), .val (.int ((64 : Int32) / pb)), .val (.int (((q1 &&& ((((64 : Int32) / pb) - (1 : Int32)).toInt64)).toInt32) * pb)), .val (.long mk), .second, .unset, .unset, .unset, .unset, .unset, .unset] [(.long (((q0.toUInt64 >>> ((((q1 &&& ((((64 : Int32) / pb) - (1 : Int32)).toInt64)).toInt32) * pb) &&& 0x3f).toInt64.toUInt64).toInt64) &&& mk))])) _
      refine XS.lstore X0.here hx rfl (hb hby at_78) rfl (l' := #[.val (.long q0), .second, .val (.long q1), .second, .val (.int p2), .val (.int p3), .val (.int ex), .val (.int pb), .val (.int fl), .val (.int ((64 : Int32) / pb)), .val (.int (((q1 &&& ((((64 : Int32) / pb) - (1 : Int32)).toInt64)).toInt32) * pb)), .val (.long mk), .second, .val (.long (((q0.toUInt64 >>> ((((q1 &&& ((((64 : Int32) / pb) - (1 : Int32)).toInt64)).toInt32) * pb) &&& 0x3f).toInt64.toUInt64).toInt64) &&& mk)), .second, .unset, .unset, .unset, .unset]) rfl ?_
      exact kt)
  obtain ⟨xp, hxp, pre12⟩ : ∃ xp : Int32, xp = (expV fl (((q0.toUInt64 >>> ((((q1 &&& (((64 : Int32) / pb) - (1 : Int32)).toInt64).toInt32) * pb) &&& 0x3f).toInt64.toUInt64).toInt64) &&& mk) mk) ∧ ∀ t, Steps p.tables e below (s₁.setTop (mkF m 113 #[.val (.long q0), .second, .val (.long q1), .second, .val (.int p2), .val (.int p3), .val (.int ex), .val (.int pb), .val (.int fl), .val (.int ((64 : Int32) / pb)), .val (.int (((q1 &&& ((((64 : Int32) / pb) - (1 : Int32)).toInt64)).toInt32) * pb)), .val (.long mk), .second, .val (.long (((q0.toUInt64 >>> ((((q1 &&& ((((64 : Int32) / pb) - (1 : Int32)).toInt64)).toInt32) * pb) &&& 0x3f).toInt64.toUInt64).toInt64) &&& mk)), .second, .unset, .unset, .unset, .unset] [(.int xp)])) t → Steps p.tables e below (s₁.setTop (entryFrame m #[(.long q0), (.long q1), (.int p2), (.int p3)] maxLocals)) t := by
    have pre9 : ∀ t, Steps p.tables e below (s₁.setTop (mkF m 82 #[.val (.long q0), .second, .val (.long q1), .second, .val (.int p2), .val (.int p3), .val (.int ex), .val (.int pb), .val (.int fl), .val (.int ((64 : Int32) / pb)), .val (.int (((q1 &&& ((((64 : Int32) / pb) - (1 : Int32)).toInt64)).toInt32) * pb)), .val (.long mk), .second, .val (.long (((q0.toUInt64 >>> ((((q1 &&& ((((64 : Int32) / pb) - (1 : Int32)).toInt64)).toInt32) * pb) &&& 0x3f).toInt64.toUInt64).toInt64) &&& mk)), .second, .unset, .unset, .unset, .unset] [(.int fl)])) t → Steps p.tables e below (s₁.setTop (entryFrame m #[(.long q0), (.long q1), (.int p2), (.int p3)] maxLocals)) t := fun t kt => pre8 t (by
        show Steps p.tables e below (s₁.setTop (mkF m 80 #[.val (.long q0), .second, .val (.long q1), .second, .val (.int p2), .val (.int p3), .val (.int ex), .val (.int pb), .val (.int fl), .val (.int ((64 : Int32) / pb)), .val (.int (((q1 &&& ((((64 : Int32) / pb) - (1 : Int32)).toInt64)).toInt32) * pb)), .val (.long mk), .second, .val (.long (((q0.toUInt64 >>> ((((q1 &&& ((((64 : Int32) / pb) - (1 : Int32)).toInt64)).toInt32) * pb) &&& 0x3f).toInt64.toUInt64).toInt64) &&& mk)), .second, .unset, .unset, .unset, .unset] [])) _
        refine XS.iload X0.here hx rfl (hb hby at_80) rfl ?_
        exact kt)
    by_cases hc82 : fl = (0 : Int32)
    · have pre10 : ∀ t, Steps p.tables e below (s₁.setTop (mkF m 105 #[.val (.long q0), .second, .val (.long q1), .second, .val (.int p2), .val (.int p3), .val (.int ex), .val (.int pb), .val (.int fl), .val (.int ((64 : Int32) / pb)), .val (.int (((q1 &&& ((((64 : Int32) / pb) - (1 : Int32)).toInt64)).toInt32) * pb)), .val (.long mk), .second, .val (.long (((q0.toUInt64 >>> ((((q1 &&& ((((64 : Int32) / pb) - (1 : Int32)).toInt64)).toInt32) * pb) &&& 0x3f).toInt64.toUInt64).toInt64) &&& mk)), .second, .unset, .unset, .unset, .unset] [(.int (lcmpW (((q0.toUInt64 >>> ((((q1 &&& ((((64 : Int32) / pb) - (1 : Int32)).toInt64)).toInt32) * pb) &&& 0x3f).toInt64.toUInt64).toInt64) &&& mk) (0 : Int64)))])) t → Steps p.tables e below (s₁.setTop (entryFrame m #[(.long q0), (.long q1), (.int p2), (.int p3)] maxLocals)) t := fun t kt => pre9 t (by
          show Steps p.tables e below (s₁.setTop (mkF m 82 #[.val (.long q0), .second, .val (.long q1), .second, .val (.int p2), .val (.int p3), .val (.int ex), .val (.int pb), .val (.int fl), .val (.int ((64 : Int32) / pb)), .val (.int (((q1 &&& ((((64 : Int32) / pb) - (1 : Int32)).toInt64)).toInt32) * pb)), .val (.long mk), .second, .val (.long (((q0.toUInt64 >>> ((((q1 &&& ((((64 : Int32) / pb) - (1 : Int32)).toInt64)).toInt32) * pb) &&& 0x3f).toInt64.toUInt64).toInt64) &&& mk)), .second, .unset, .unset, .unset, .unset] [(.int fl)])) _
          refine XS.ifYes X0.here hx rfl (pc0 := 82) (pc' := 101) rfl (hb hby at_82) rfl ((if0 _ _).trans (teq (show fl = (0 : Int32) from hc82)).1) (by decide) (by decide) ?_
          show Steps p.tables e below (s₁.setTop (mkF m 101 #[.val (.long q0), .second, .val (.long q1), .second, .val (.int p2), .val (.int p3), .val (.int ex), .val (.int pb), .val (.int fl), .val (.int ((64 : Int32) / pb)), .val (.int (((q1 &&& ((((64 : Int32) / pb) - (1 : Int32)).toInt64)).toInt32) * pb)), .val (.long mk), .second, .val (.long (((q0.toUInt64 >>> ((((q1 &&& ((((64 : Int32) / pb) - (1 : Int32)).toInt64)).toInt32) * pb) &&& 0x3f).toInt64.toUInt64).toInt64) &&& mk)), .second, .unset, .unset, .unset, .unset] [])) _
          refine XS.lload X0.here hx rfl (hb hby at_101) rfl ?_
          show Steps p.tables e below (s₁.setTop (mkF m 103 #[.val (.long q0), .second, .val (.long q1), .second, .val (.int p2), .val (.int p3), .val (.int ex), .val (.int pb), .val (.int fl), .val (.int ((64 : Int32) / pb)), .val (.int (((q1 &&& ((((64 : Int32) / pb) - (1 : Int32)).toInt64)).toInt32) * pb)), .val (.long mk), .second, .val (.long (((q0.toUInt64 >>> ((((q1 &&& ((((64 : Int32) / pb) - (1 : Int32)).toInt64)).toInt32) * pb) &&& 0x3f).toInt64.toUInt64).toInt64) &&& mk)), .second, .unset, .unset, .unset, .unset] [(.long (((q0.toUInt64 >>> ((((q1 &&& ((((64 : Int32) / pb) - (1 : Int32)).toInt64)).toInt32) * pb) &&& 0x3f).toInt64.toUInt64).toInt64) &&& mk))])) _
          refine XS.lconst X0.here hx rfl (hb hby at_103) ?_
          show Steps p.tables e below (s₁.setTop (mkF m 104 #[.val (.long q0), .second, .val (.long q1), .second, .val (.int p2), .val (.int p3), .val (.int ex), .val (.int pb), .val (.int fl), .val (.int ((64 : Int32) / pb)), .val (.int (((q1 &&& ((((64 : Int32) / pb) - (1 : Int32)).toInt64)).toInt32) * pb)), .val (.long mk), .second, .val (.long (((q0.toUInt64 >>> ((((q1 &&& ((((64 : Int32) / pb) - (1 : Int32)).toInt64)).toInt32) * pb) &&& 0x3f).toInt64.toUInt64).toInt64) &&& mk)), .second, .unset, .unset, .unset, .unset] [(.long (0 : Int64)), (.long (((q0.toUInt64 >>> ((((q1 &&& ((((64 : Int32) / pb) - (1 : Int32)).toInt64)).toInt32) * pb) &&& 0x3f).toInt64.toUInt64).toInt64) &&& mk))])) _
          refine XS.lcmp X0.here hx rfl (hb hby at_104) rfl ?_
          exact kt)
      by_cases hc105 : (((q0.toUInt64 >>> ((((q1 &&& ((((64 : Int32) / pb) - (1 : Int32)).toInt64)).toInt32) * pb) &&& 0x3f).toInt64.toUInt64).toInt64) &&& mk) = (0 : Int64)
      · exact ⟨(0 : Int32), (by rw [expV, if_pos hc82, if_pos hc105]), fun t kt => pre10 t (by
            show Steps p.tables e below (s₁.setTop (mkF m 105 #[.val (.long q0), .second, .val (.long q1), .second, .val (.int p2), .val (.int p3), .val (.int ex), .val (.int pb), .val (.int fl), .val (.int ((64 : Int32) / pb)), .val (.int (((q1 &&& ((((64 : Int32) / pb) - (1 : Int32)).toInt64)).toInt32) * pb)), .val (.long mk), .second, .val (.long (((q0.toUInt64 >>> ((((q1 &&& ((((64 : Int32) / pb) - (1 : Int32)).toInt64)).toInt32) * pb) &&& 0x3f).toInt64.toUInt64).toInt64) &&& mk)), .second, .unset, .unset, .unset, .unset] [(.int (lcmpW (((q0.toUInt64 >>> ((((q1 &&& ((((64 : Int32) / pb) - (1 : Int32)).toInt64)).toInt32) * pb) &&& 0x3f).toInt64.toUInt64).toInt64) &&& mk) (0 : Int64)))])) _
            refine XS.ifYes X0.here hx rfl (pc0 := 105) (pc' := 112) rfl (hb hby at_105) rfl ((if0 _ _).trans (teq (show (lcmpW (((q0.toUInt64 >>> ((((q1 &&& ((((64 : Int32) / pb) - (1 : Int32)).toInt64)).toInt32) * pb) &&& 0x3f).toInt64.toUInt64).toInt64) &&& mk) (0 : Int64)) = (0 : Int32) from ((lw_eq _ _).mpr hc105))).1) (by decide) (by decide) ?_
            show Steps p.tables e below (s₁.setTop (mkF m 112 #[.val (.long q0), .second, .val (.long q1), .second, .val (.int p2), .val (.int p3), .val (.int ex), .val (.int pb), .val (.int fl), .val (.int ((64 : Int32) / pb)), .val (.int (((q1 &&& ((((64 : Int32) / pb) - (1 : Int32)).toInt64)).toInt32) * pb)), .val (.long mk), .second, .val (.long (((q0.toUInt64 >>> ((((q1 &&& ((((64 : Int32) / pb) - (1 : Int32)).toInt64)).toInt32) * pb) &&& 0x3f).toInt64.toUInt64).toInt64) &&& mk)), .second, .unset, .unset, .unset, .unset] [])) _
            refine XS.iconst X0.here hx rfl (hb hby at_112) ?_
            exact kt)⟩
      · exact ⟨(1 : Int32), (by rw [expV, if_pos hc82, if_neg hc105]), fun t kt => pre10 t (by
            show Steps p.tables e below (s₁.setTop (mkF m 105 #[.val (.long q0), .second, .val (.long q1), .second, .val (.int p2), .val (.int p3), .val (.int ex), .val (.int pb), .val (.int fl), .val (.int ((64 : Int32) / pb)), .val (.int (((q1 &&& ((((64 : Int32) / pb) - (1 : Int32)).toInt64)).toInt32) * pb)), .val (.long mk), .second, .val (.long (((q0.toUInt64 >>> ((((q1 &&& ((((64 : Int32) / pb) - (1 : Int32)).toInt64)).toInt32) * pb) &&& 0x3f).toInt64.toUInt64).toInt64) &&& mk)), .second, .unset, .unset, .unset, .unset] [(.int (lcmpW (((q0.toUInt64 >>> ((((q1 &&& ((((64 : Int32) / pb) - (1 : Int32)).toInt64)).toInt32) * pb) &&& 0x3f).toInt64.toUInt64).toInt64) &&& mk) (0 : Int64)))])) _
            refine XS.ifNo X0.here hx rfl (hb hby at_105) rfl ((if0 _ _).trans (feq (show ¬ ((lcmpW (((q0.toUInt64 >>> ((((q1 &&& ((((64 : Int32) / pb) - (1 : Int32)).toInt64)).toInt32) * pb) &&& 0x3f).toInt64.toUInt64).toInt64) &&& mk) (0 : Int64)) = (0 : Int32)) from (fun q => hc105 ((lw_eq _ _).mp q)))).1) ?_
            show Steps p.tables e below (s₁.setTop (mkF m 108 #[.val (.long q0), .second, .val (.long q1), .second, .val (.int p2), .val (.int p3), .val (.int ex), .val (.int pb), .val (.int fl), .val (.int ((64 : Int32) / pb)), .val (.int (((q1 &&& ((((64 : Int32) / pb) - (1 : Int32)).toInt64)).toInt32) * pb)), .val (.long mk), .second, .val (.long (((q0.toUInt64 >>> ((((q1 &&& ((((64 : Int32) / pb) - (1 : Int32)).toInt64)).toInt32) * pb) &&& 0x3f).toInt64.toUInt64).toInt64) &&& mk)), .second, .unset, .unset, .unset, .unset] [])) _
            refine XS.iconst X0.here hx rfl (hb hby at_108) ?_
            show Steps p.tables e below (s₁.setTop (mkF m 109 #[.val (.long q0), .second, .val (.long q1), .second, .val (.int p2), .val (.int p3), .val (.int ex), .val (.int pb), .val (.int fl), .val (.int ((64 : Int32) / pb)), .val (.int (((q1 &&& ((((64 : Int32) / pb) - (1 : Int32)).toInt64)).toInt32) * pb)), .val (.long mk), .second, .val (.long (((q0.toUInt64 >>> ((((q1 &&& ((((64 : Int32) / pb) - (1 : Int32)).toInt64)).toInt32) * pb) &&& 0x3f).toInt64.toUInt64).toInt64) &&& mk)), .second, .unset, .unset, .unset, .unset] [(.int (1 : Int32))])) _
            refine XS.goto X0.here hx rfl (pc0 := 109) (pc' := 113) rfl (hb hby at_109) (by decide) (by decide) ?_
            exact kt)⟩
    · have pre11 : ∀ t, Steps p.tables e below (s₁.setTop (mkF m 90 #[.val (.long q0), .second, .val (.long q1), .second, .val (.int p2), .val (.int p3), .val (.int ex), .val (.int pb), .val (.int fl), .val (.int ((64 : Int32) / pb)), .val (.int (((q1 &&& ((((64 : Int32) / pb) - (1 : Int32)).toInt64)).toInt32) * pb)), .val (.long mk), .second, .val (.long (((q0.toUInt64 >>> ((((q1 &&& ((((64 : Int32) / pb) - (1 : Int32)).toInt64)).toInt32) * pb) &&& 0x3f).toInt64.toUInt64).toInt64) &&& mk)), .second, .unset, .unset, .unset, .unset] [(.int (lcmpW (((q0.toUInt64 >>> ((((q1 &&& ((((64 : Int32) / pb) - (1 : Int32)).toInt64)).toInt32) * pb) &&& 0x3f).toInt64.toUInt64).toInt64) &&& mk) mk))])) t → Steps p.tables e below (s₁.setTop (entryFrame m #[(.long q0), (.long q1), (.int p2), (.int p3)] maxLocals)) t := fun t kt => pre9 t (by
          show Steps p.tables e below (s₁.setTop (mkF m 82 #[.val (.long q0), .second, .val (.long q1), .second, .val (.int p2), .val (.int p3), .val (.int ex), .val (.int pb), .val (.int fl), .val (.int ((64 : Int32) / pb)), .val (.int (((q1 &&& ((((64 : Int32) / pb) - (1 : Int32)).toInt64)).toInt32) * pb)), .val (.long mk), .second, .val (.long (((q0.toUInt64 >>> ((((q1 &&& ((((64 : Int32) / pb) - (1 : Int32)).toInt64)).toInt32) * pb) &&& 0x3f).toInt64.toUInt64).toInt64) &&& mk)), .second, .unset, .unset, .unset, .unset] [(.int fl)])) _
          refine XS.ifNo X0.here hx rfl (hb hby at_82) rfl ((if0 _ _).trans (feq (show ¬ (fl = (0 : Int32)) from hc82)).1) ?_
          show Steps p.tables e below (s₁.setTop (mkF m 85 #[.val (.long q0), .second, .val (.long q1), .second, .val (.int p2), .val (.int p3), .val (.int ex), .val (.int pb), .val (.int fl), .val (.int ((64 : Int32) / pb)), .val (.int (((q1 &&& ((((64 : Int32) / pb) - (1 : Int32)).toInt64)).toInt32) * pb)), .val (.long mk), .second, .val (.long (((q0.toUInt64 >>> ((((q1 &&& ((((64 : Int32) / pb) - (1 : Int32)).toInt64)).toInt32) * pb) &&& 0x3f).toInt64.toUInt64).toInt64) &&& mk)), .second, .unset, .unset, .unset, .unset] [])) _
          refine XS.lload X0.here hx rfl (hb hby at_85) rfl ?_
          show Steps p.tables e below (s₁.setTop (mkF m 87 #[.val (.long q0), .second, .val (.long q1), .second, .val (.int p2), .val (.int p3), .val (.int ex), .val (.int pb), .val (.int fl), .val (.int ((64 : Int32) / pb)), .val (.int (((q1 &&& ((((64 : Int32) / pb) - (1 : Int32)).toInt64)).toInt32) * pb)), .val (.long mk), .second, .val (.long (((q0.toUInt64 >>> ((((q1 &&& ((((64 : Int32) / pb) - (1 : Int32)).toInt64)).toInt32) * pb) &&& 0x3f).toInt64.toUInt64).toInt64) &&& mk)), .second, .unset, .unset, .unset, .unset] [(.long (((q0.toUInt64 >>> ((((q1 &&& ((((64 : Int32) / pb) - (1 : Int32)).toInt64)).toInt32) * pb) &&& 0x3f).toInt64.toUInt64).toInt64) &&& mk))])) _
          refine XS.lload X0.here hx rfl (hb hby at_87) rfl ?_
          show Steps p.tables e below (s₁.setTop (mkF m 89 #[.val (.long q0), .second, .val (.long q1), .second, .val (.int p2), .val (.int p3), .val (.int ex), .val (.int pb), .val (.int fl), .val (.int ((64 : Int32) / pb)), .val (.int (((q1 &&& ((((64 : Int32) / pb) - (1 : Int32)).toInt64)).toInt32) * pb)), .val (.long mk), .second, .val (.long (((q0.toUInt64 >>> ((((q1 &&& ((((64 : Int32) / pb) - (1 : Int32)).toInt64)).toInt32) * pb) &&& 0x3f).toInt64.toUInt64).toInt64) &&& mk)), .second, .unset, .unset, .unset, .unset] [(.long mk), (.long (((q0.toUInt64 >>> ((((q1 &&& ((((64 : Int32) / pb) - (1 : Int32)).toInt64)).toInt32) * pb) &&& 0x3f).toInt64.toUInt64).toInt64) &&& mk))])) _
          refine XS.lcmp X0.here hx rfl (hb hby at_89) rfl ?_
          exact kt)
      by_cases hc90 : (((q0.toUInt64 >>> ((((q1 &&& ((((64 : Int32) / pb) - (1 : Int32)).toInt64)).toInt32) * pb) &&& 0x3f).toInt64.toUInt64).toInt64) &&& mk) = mk
      · exact ⟨(1 : Int32), (by rw [expV, if_neg hc82, if_pos hc90]), fun t kt => pre11 t (by
            show Steps p.tables e below (s₁.setTop (mkF m 90 #[.val (.long q0), .second, .val (.long q1), .second, .val (.int p2), .val (.int p3), .val (.int ex), .val (.int pb), .val (.int fl), .val (.int ((64 : Int32) / pb)), .val (.int (((q1 &&& ((((64 : Int32) / pb) - (1 : Int32)).toInt64)).toInt32) * pb)), .val (.long mk), .second, .val (.long (((q0.toUInt64 >>> ((((q1 &&& ((((64 : Int32) / pb) - (1 : Int32)).toInt64)).toInt32) * pb) &&& 0x3f).toInt64.toUInt64).toInt64) &&& mk)), .second, .unset, .unset, .unset, .unset] [(.int (lcmpW (((q0.toUInt64 >>> ((((q1 &&& ((((64 : Int32) / pb) - (1 : Int32)).toInt64)).toInt32) * pb) &&& 0x3f).toInt64.toUInt64).toInt64) &&& mk) mk))])) _
            refine XS.ifNo X0.here hx rfl (hb hby at_90) rfl ((if0 _ _).trans (teq (show (lcmpW (((q0.toUInt64 >>> ((((q1 &&& ((((64 : Int32) / pb) - (1 : Int32)).toInt64)).toInt32) * pb) &&& 0x3f).toInt64.toUInt64).toInt64) &&& mk) mk) = (0 : Int32) from ((lw_eq _ _).mpr hc90))).2) ?_
            show Steps p.tables e below (s₁.setTop (mkF m 93 #[.val (.long q0), .second, .val (.long q1), .second, .val (.int p2), .val (.int p3), .val (.int ex), .val (.int pb), .val (.int fl), .val (.int ((64 : Int32) / pb)), .val (.int (((q1 &&& ((((64 : Int32) / pb) - (1 : Int32)).toInt64)).toInt32) * pb)), .val (.long mk), .second, .val (.long (((q0.toUInt64 >>> ((((q1 &&& ((((64 : Int32) / pb) - (1 : Int32)).toInt64)).toInt32) * pb) &&& 0x3f).toInt64.toUInt64).toInt64) &&& mk)), .second, .unset, .unset, .unset, .unset] [])) _
            refine XS.iconst X0.here hx rfl (hb hby at_93) ?_
            show Steps p.tables e below (s₁.setTop (mkF m 94 #[.val (.long q0), .second, .val (.long q1), .second, .val (.int p2), .val (.int p3), .val (.int ex), .val (.int pb), .val (.int fl), .val (.int ((64 : Int32) / pb)), .val (.int (((q1 &&& ((((64 : Int32) / pb) - (1 : Int32)).toInt64)).toInt32) * pb)), .val (.long mk), .second, .val (.long (((q0.toUInt64 >>> ((((q1 &&& ((((64 : Int32) / pb) - (1 : Int32)).toInt64)).toInt32) * pb) &&& 0x3f).toInt64.toUInt64).toInt64) &&& mk)), .second, .unset, .unset, .unset, .unset] [(.int (1 : Int32))])) _
            refine XS.goto X0.here hx rfl (pc0 := 94) (pc' := 113) rfl (hb hby at_94) (by decide) (by decide) ?_
            exact kt)⟩
      · exact ⟨(0 : Int32), (by rw [expV, if_neg hc82, if_neg hc90]), fun t kt => pre11 t (by
            show Steps p.tables e below (s₁.setTop (mkF m 90 #[.val (.long q0), .second, .val (.long q1), .second, .val (.int p2), .val (.int p3), .val (.int ex), .val (.int pb), .val (.int fl), .val (.int ((64 : Int32) / pb)), .val (.int (((q1 &&& ((((64 : Int32) / pb) - (1 : Int32)).toInt64)).toInt32) * pb)), .val (.long mk), .second, .val (.long (((q0.toUInt64 >>> ((((q1 &&& ((((64 : Int32) / pb) - (1 : Int32)).toInt64)).toInt32) * pb) &&& 0x3f).toInt64.toUInt64).toInt64) &&& mk)), .second, .unset, .unset, .unset, .unset] [(.int (lcmpW (((q0.toUInt64 >>> ((((q1 &&& ((((64 : Int32) / pb) - (1 : Int32)).toInt64)).toInt32) * pb) &&& 0x3f).toInt64.toUInt64).toInt64) &&& mk) mk))])) _
            refine XS.ifYes X0.here hx rfl (pc0 := 90) (pc' := 97) rfl (hb hby at_90) rfl ((if0 _ _).trans (feq (show ¬ ((lcmpW (((q0.toUInt64 >>> ((((q1 &&& ((((64 : Int32) / pb) - (1 : Int32)).toInt64)).toInt32) * pb) &&& 0x3f).toInt64.toUInt64).toInt64) &&& mk) mk) = (0 : Int32)) from (fun q => hc90 ((lw_eq _ _).mp q)))).2) (by decide) (by decide) ?_
            show Steps p.tables e below (s₁.setTop (mkF m 97 #[.val (.long q0), .second, .val (.long q1), .second, .val (.int p2), .val (.int p3), .val (.int ex), .val (.int pb), .val (.int fl), .val (.int ((64 : Int32) / pb)), .val (.int (((q1 &&& ((((64 : Int32) / pb) - (1 : Int32)).toInt64)).toInt32) * pb)), .val (.long mk), .second, .val (.long (((q0.toUInt64 >>> ((((q1 &&& ((((64 : Int32) / pb) - (1 : Int32)).toInt64)).toInt32) * pb) &&& 0x3f).toInt64.toUInt64).toInt64) &&& mk)), .second, .unset, .unset, .unset, .unset] [])) _
            refine XS.iconst X0.here hx rfl (hb hby at_97) ?_
            show Steps p.tables e below (s₁.setTop (mkF m 98 #[.val (.long q0), .second, .val (.long q1), .second, .val (.int p2), .val (.int p3), .val (.int ex), .val (.int pb), .val (.int fl), .val (.int ((64 : Int32) / pb)), .val (.int (((q1 &&& ((((64 : Int32) / pb) - (1 : Int32)).toInt64)).toInt32) * pb)), .val (.long mk), .second, .val (.long (((q0.toUInt64 >>> ((((q1 &&& ((((64 : Int32) / pb) - (1 : Int32)).toInt64)).toInt32) * pb) &&& 0x3f).toInt64.toUInt64).toInt64) &&& mk)), .second, .unset, .unset, .unset, .unset] [(.int (0 : Int32))])) _
            refine XS.goto X0.here hx rfl (pc0 := 98) (pc' := 113) rfl (hb hby at_98) (by decide) (by decide) ?_
            exact kt)⟩
  obtain ⟨_, _, ⟨T13, L13, k13, n13⟩, -, X13, ⟨Lc13, hQ13, l13, y13, z13⟩, st13⟩ := Jvm.LawKit.callS X0 hx (y := (⟨"com/example/bitsieve/bitsieve/filter/Words", "test", "(JJIZ)J"⟩ : MethodName)) hown (mvT hZ (hw _ (List.mem_of_getElem? (i := 1) rfl))) (mvT hZ (hw _ (List.mem_of_getElem? (i := 2) rfl))) (mvT hZ (hw _ (List.mem_of_getElem? (i := 3) rfl))) (mvT hZ (hw _ (List.mem_of_getElem? (i := 4) rfl))) (by decide) (backOf (W := 0) (rm1 l Z a0 hw [] q0 q1 pb fl h0 n0 Z0 ) hZ (hw _ (List.mem_of_getElem? (i := 4) rfl)) (hw _ (List.mem_of_getElem? (i := 3) rfl)) (by decide) (by decide)) (g := (mkF m 121 #[.val (.long q0), .second, .val (.long q1), .second, .val (.int p2), .val (.int p3), .val (.int ex), .val (.int pb), .val (.int fl), .val (.int ((64 : Int32) / pb)), .val (.int (((q1 &&& ((((64 : Int32) / pb) - (1 : Int32)).toInt64)).toInt32) * pb)), .val (.long mk), .second, .val (.long (((q0.toUInt64 >>> ((((q1 &&& ((((64 : Int32) / pb) - (1 : Int32)).toInt64)).toInt32) * pb) &&& 0x3f).toInt64.toUInt64).toInt64) &&& mk)), .second, .val (.int xp), .unset, .unset, .unset] [(.int fl), (.int pb), (.long q1), (.long q0)])) rfl (by rw [hml]; rfl) (argsL := [(.long q0), (.long q1), (.int pb), (.int fl)]) (rest := []) (lenOf pd_1 rfl) rfl (by show 2 * 0 + _ ≤ _; exact Nat.le_of_eq rfl) (hb hby at_121) (fun _ _ => ⟨rfl, e0, (by decide : 0 + 0 ≤ _), (by decide : 0 + 0 ≤ _)⟩)
  dsimp only [Pt.U, Pt.locs, Pt.cells, Pt.slots] at X13 l13 y13 z13 st13 hQ13
  subst l13 y13 z13
  obtain ⟨rfl, N13q, e13⟩ := hQ13
  have N13 := Fr.app N0 N13q
  have pre14 : ∀ t, Steps p.tables e below (T13.setTop (mkF m 126 #[.val (.long q0), .second, .val (.long q1), .second, .val (.int p2), .val (.int p3), .val (.int ex), .val (.int pb), .val (.int fl), .val (.int ((64 : Int32) / pb)), .val (.int (((q1 &&& ((((64 : Int32) / pb) - (1 : Int32)).toInt64)).toInt32) * pb)), .val (.long mk), .second, .val (.long (((q0.toUInt64 >>> ((((q1 &&& ((((64 : Int32) / pb) - (1 : Int32)).toInt64)).toInt32) * pb) &&& 0x3f).toInt64.toUInt64).toInt64) &&& mk)), .second, .val (.int xp), .val (.long (testV q0 q1 pb fl)), .second, .unset] [])) t → Steps p.tables e below (s₁.setTop (entryFrame m #[(.long q0), (.long q1), (.int p2), (.int p3)] maxLocals)) t := fun t kt => pre12 t (by
      show Steps p.tables e below (s₁.setTop (mkF m 113 #[.val (.long q0), .second, .val (.long q1), .second, .val (.int p2), .val (.int p3), .val (.int ex), .val (.int pb), .val (.int fl), .val (.int ((64 : Int32) / pb)), .val (.int (((q1 &&& ((((64 : Int32) / pb) - (1 : Int32)).toInt64)).toInt32) * pb)), .val (.long mk), .second, .val (.long (((q0.toUInt64 >>> ((((q1 &&& ((((64 : Int32) / pb) - (1 : Int32)).toInt64)).toInt32) * pb) &&& 0x3f).toInt64.toUInt64).toInt64) &&& mk)), .second, .unset, .unset, .unset, .unset] [(.int xp)])) _
      refine XS.istore X0.here hx rfl (hb hby at_113) rfl (l' := #[.val (.long q0), .second, .val (.long q1), .second, .val (.int p2), .val (.int p3), .val (.int ex), .val (.int pb), .val (.int fl), .val (.int ((64 : Int32) / pb)), .val (.int (((q1 &&& ((((64 : Int32) / pb) - (1 : Int32)).toInt64)).toInt32) * pb)), .val (.long mk), .second, .val (.long (((q0.toUInt64 >>> ((((q1 &&& ((((64 : Int32) / pb) - (1 : Int32)).toInt64)).toInt32) * pb) &&& 0x3f).toInt64.toUInt64).toInt64) &&& mk)), .second, .val (.int xp), .unset, .unset, .unset]) rfl ?_
      show Steps p.tables e below (s₁.setTop (mkF m 115 #[.val (.long q0), .second, .val (.long q1), .second, .val (.int p2), .val (.int p3), .val (.int ex), .val (.int pb), .val (.int fl), .val (.int ((64 : Int32) / pb)), .val (.int (((q1 &&& ((((64 : Int32) / pb) - (1 : Int32)).toInt64)).toInt32) * pb)), .val (.long mk), .second, .val (.long (((q0.toUInt64 >>> ((((q1 &&& ((((64 : Int32) / pb) - (1 : Int32)).toInt64)).toInt32) * pb) &&& 0x3f).toInt64.toUInt64).toInt64) &&& mk)), .second, .val (.int xp), .unset, .unset, .unset] [])) _
      refine XS.lloadN X0.here hx rfl (hb hby at_115) rfl ?_
      show Steps p.tables e below (s₁.setTop (mkF m 116 #[.val (.long q0), .second, .val (.long q1), .second, .val (.int p2), .val (.int p3), .val (.int ex), .val (.int pb), .val (.int fl), .val (.int ((64 : Int32) / pb)), .val (.int (((q1 &&& ((((64 : Int32) / pb) - (1 : Int32)).toInt64)).toInt32) * pb)), .val (.long mk), .second, .val (.long (((q0.toUInt64 >>> ((((q1 &&& ((((64 : Int32) / pb) - (1 : Int32)).toInt64)).toInt32) * pb) &&& 0x3f).toInt64.toUInt64).toInt64) &&& mk)), .second, .val (.int xp), .unset, .unset, .unset] [(.long q0)])) _
      refine XS.lloadN X0.here hx rfl (hb hby at_116) rfl ?_
      show Steps p.tables e below (s₁.setTop (mkF m 117 #[.val (.long q0), .second, .val (.long q1), .second, .val (.int p2), .val (.int p3), .val (.int ex), .val (.int pb), .val (.int fl), .val (.int ((64 : Int32) / pb)), .val (.int (((q1 &&& ((((64 : Int32) / pb) - (1 : Int32)).toInt64)).toInt32) * pb)), .val (.long mk), .second, .val (.long (((q0.toUInt64 >>> ((((q1 &&& ((((64 : Int32) / pb) - (1 : Int32)).toInt64)).toInt32) * pb) &&& 0x3f).toInt64.toUInt64).toInt64) &&& mk)), .second, .val (.int xp), .unset, .unset, .unset] [(.long q1), (.long q0)])) _
      refine XS.iload X0.here hx rfl (hb hby at_117) rfl ?_
      show Steps p.tables e below (s₁.setTop (mkF m 119 #[.val (.long q0), .second, .val (.long q1), .second, .val (.int p2), .val (.int p3), .val (.int ex), .val (.int pb), .val (.int fl), .val (.int ((64 : Int32) / pb)), .val (.int (((q1 &&& ((((64 : Int32) / pb) - (1 : Int32)).toInt64)).toInt32) * pb)), .val (.long mk), .second, .val (.long (((q0.toUInt64 >>> ((((q1 &&& ((((64 : Int32) / pb) - (1 : Int32)).toInt64)).toInt32) * pb) &&& 0x3f).toInt64.toUInt64).toInt64) &&& mk)), .second, .val (.int xp), .unset, .unset, .unset] [(.int pb), (.long q1), (.long q0)])) _
      refine XS.iload X0.here hx rfl (hb hby at_119) rfl ?_
      show Steps p.tables e below (s₁.setTop (mkF m 121 #[.val (.long q0), .second, .val (.long q1), .second, .val (.int p2), .val (.int p3), .val (.int ex), .val (.int pb), .val (.int fl), .val (.int ((64 : Int32) / pb)), .val (.int (((q1 &&& ((((64 : Int32) / pb) - (1 : Int32)).toInt64)).toInt32) * pb)), .val (.long mk), .second, .val (.long (((q0.toUInt64 >>> ((((q1 &&& ((((64 : Int32) / pb) - (1 : Int32)).toInt64)).toInt32) * pb) &&& 0x3f).toInt64.toUInt64).toInt64) &&& mk)), .second, .val (.int xp), .unset, .unset, .unset] [(.int fl), (.int pb), (.long q1), (.long q0)])) _
      refine st13 _ ?_
      show Steps p.tables e below (T13.setTop (mkF m 124 #[.val (.long q0), .second, .val (.long q1), .second, .val (.int p2), .val (.int p3), .val (.int ex), .val (.int pb), .val (.int fl), .val (.int ((64 : Int32) / pb)), .val (.int (((q1 &&& ((((64 : Int32) / pb) - (1 : Int32)).toInt64)).toInt32) * pb)), .val (.long mk), .second, .val (.long (((q0.toUInt64 >>> ((((q1 &&& ((((64 : Int32) / pb) - (1 : Int32)).toInt64)).toInt32) * pb) &&& 0x3f).toInt64.toUInt64).toInt64) &&& mk)), .second, .val (.int xp), .unset, .unset, .unset] [(.long (testV q0 q1 pb fl))])) _
      refine XS.lstore X13.here hx rfl (hb hby at_124) rfl (l' := #[.val (.long q0), .second, .val (.long q1), .second, .val (.int p2), .val (.int p3), .val (.int ex), .val (.int pb), .val (.int fl), .val (.int ((64 : Int32) / pb)), .val (.int (((q1 &&& ((((64 : Int32) / pb) - (1 : Int32)).toInt64)).toInt32) * pb)), .val (.long mk), .second, .val (.long (((q0.toUInt64 >>> ((((q1 &&& ((((64 : Int32) / pb) - (1 : Int32)).toInt64)).toInt32) * pb) &&& 0x3f).toInt64.toUInt64).toInt64) &&& mk)), .second, .val (.int xp), .val (.long (testV q0 q1 pb fl)), .second, .unset]) rfl ?_
      exact kt)
  obtain ⟨rs, hrs⟩ : ∃ z : Int64, z = (testV q0 q1 pb fl) := ⟨_, rfl⟩
  rw [← hrs] at pre14
  obtain ⟨ac, hac, pre16⟩ : ∃ ac : Int32, ac = (actV rs) ∧ ∀ t, Steps p.tables e below (T13.setTop (mkF m 140 #[.val (.long q0), .second, .val (.long q1), .second, .val (.int p2), .val (.int p3), .val (.int ex), .val (.int pb), .val (.int fl), .val (.int ((64 : Int32) / pb)), .val (.int (((q1 &&& ((((64 : Int32) / pb) - (1 : Int32)).toInt64)).toInt32) * pb)), .val (.long mk), .second, .val (.long (((q0.toUInt64 >>> ((((q1 &&& ((((64 : Int32) / pb) - (1 : Int32)).toInt64)).toInt32) * pb) &&& 0x3f).toInt64.toUInt64).toInt64) &&& mk)), .second, .val (.int xp), .val (.long rs), .second, .unset] [(.int ac)])) t → Steps p.tables e below (s₁.setTop (entryFrame m #[(.long q0), (.long q1), (.int p2), (.int p3)] maxLocals)) t := by
    have pre15 : ∀ t, Steps p.tables e below (T13.setTop (mkF m 132 #[.val (.long q0), .second, .val (.long q1), .second, .val (.int p2), .val (.int p3), .val (.int ex), .val (.int pb), .val (.int fl), .val (.int ((64 : Int32) / pb)), .val (.int (((q1 &&& ((((64 : Int32) / pb) - (1 : Int32)).toInt64)).toInt32) * pb)), .val (.long mk), .second, .val (.long (((q0.toUInt64 >>> ((((q1 &&& ((((64 : Int32) / pb) - (1 : Int32)).toInt64)).toInt32) * pb) &&& 0x3f).toInt64.toUInt64).toInt64) &&& mk)), .second, .val (.int xp), .val (.long rs), .second, .unset] [(.int (lcmpW (rs &&& (1 : Int64)) (0 : Int64)))])) t → Steps p.tables e below (s₁.setTop (entryFrame m #[(.long q0), (.long q1), (.int p2), (.int p3)] maxLocals)) t := fun t kt => pre14 t (by
        show Steps p.tables e below (T13.setTop (mkF m 126 #[.val (.long q0), .second, .val (.long q1), .second, .val (.int p2), .val (.int p3), .val (.int ex), .val (.int pb), .val (.int fl), .val (.int ((64 : Int32) / pb)), .val (.int (((q1 &&& ((((64 : Int32) / pb) - (1 : Int32)).toInt64)).toInt32) * pb)), .val (.long mk), .second, .val (.long (((q0.toUInt64 >>> ((((q1 &&& ((((64 : Int32) / pb) - (1 : Int32)).toInt64)).toInt32) * pb) &&& 0x3f).toInt64.toUInt64).toInt64) &&& mk)), .second, .val (.int xp), .val (.long rs), .second, .unset] [])) _
        refine XS.lload X13.here hx rfl (hb hby at_126) rfl ?_
        show Steps p.tables e below (T13.setTop (mkF m 128 #[.val (.long q0), .second, .val (.long q1), .second, .val (.int p2), .val (.int p3), .val (.int ex), .val (.int pb), .val (.int fl), .val (.int ((64 : Int32) / pb)), .val (.int (((q1 &&& ((((64 : Int32) / pb) - (1 : Int32)).toInt64)).toInt32) * pb)), .val (.long mk), .second, .val (.long (((q0.toUInt64 >>> ((((q1 &&& ((((64 : Int32) / pb) - (1 : Int32)).toInt64)).toInt32) * pb) &&& 0x3f).toInt64.toUInt64).toInt64) &&& mk)), .second, .val (.int xp), .val (.long rs), .second, .unset] [(.long rs)])) _
        refine XS.lconst X13.here hx rfl (hb hby at_128) ?_
        show Steps p.tables e below (T13.setTop (mkF m 129 #[.val (.long q0), .second, .val (.long q1), .second, .val (.int p2), .val (.int p3), .val (.int ex), .val (.int pb), .val (.int fl), .val (.int ((64 : Int32) / pb)), .val (.int (((q1 &&& ((((64 : Int32) / pb) - (1 : Int32)).toInt64)).toInt32) * pb)), .val (.long mk), .second, .val (.long (((q0.toUInt64 >>> ((((q1 &&& ((((64 : Int32) / pb) - (1 : Int32)).toInt64)).toInt32) * pb) &&& 0x3f).toInt64.toUInt64).toInt64) &&& mk)), .second, .val (.int xp), .val (.long rs), .second, .unset] [(.long (1 : Int64)), (.long rs)])) _
        refine XS.land X13.here hx rfl (hb hby at_129) rfl ?_
        show Steps p.tables e below (T13.setTop (mkF m 130 #[.val (.long q0), .second, .val (.long q1), .second, .val (.int p2), .val (.int p3), .val (.int ex), .val (.int pb), .val (.int fl), .val (.int ((64 : Int32) / pb)), .val (.int (((q1 &&& ((((64 : Int32) / pb) - (1 : Int32)).toInt64)).toInt32) * pb)), .val (.long mk), .second, .val (.long (((q0.toUInt64 >>> ((((q1 &&& ((((64 : Int32) / pb) - (1 : Int32)).toInt64)).toInt32) * pb) &&& 0x3f).toInt64.toUInt64).toInt64) &&& mk)), .second, .val (.int xp), .val (.long rs), .second, .unset] [(.long (rs &&& (1 : Int64)))])) _
        refine XS.lconst X13.here hx rfl (hb hby at_130) ?_
        show Steps p.tables e below (T13.setTop (mkF m 131 #[.val (.long q0), .second, .val (.long q1), .second, .val (.int p2), .val (.int p3), .val (.int ex), .val (.int pb), .val (.int fl), .val (.int ((64 : Int32) / pb)), .val (.int (((q1 &&& ((((64 : Int32) / pb) - (1 : Int32)).toInt64)).toInt32) * pb)), .val (.long mk), .second, .val (.long (((q0.toUInt64 >>> ((((q1 &&& ((((64 : Int32) / pb) - (1 : Int32)).toInt64)).toInt32) * pb) &&& 0x3f).toInt64.toUInt64).toInt64) &&& mk)), .second, .val (.int xp), .val (.long rs), .second, .unset] [(.long (0 : Int64)), (.long (rs &&& (1 : Int64)))])) _
        refine XS.lcmp X13.here hx rfl (hb hby at_131) rfl ?_
        exact kt)
    by_cases hc132 : (rs &&& (1 : Int64)) = (0 : Int64)
    · exact ⟨(0 : Int32), (by rw [actV, if_pos hc132]), fun t kt => pre15 t (by
          show Steps p.tables e below (T13.setTop (mkF m 132 #[.val (.long q0), .second, .val (.long q1), .second, .val (.int p2), .val (.int p3), .val (.int ex), .val (.int pb), .val (.int fl), .val (.int ((64 : Int32) / pb)), .val (.int (((q1 &&& ((((64 : Int32) / pb) - (1 : Int32)).toInt64)).toInt32) * pb)), .val (.long mk), .second, .val (.long (((q0.toUInt64 >>> ((((q1 &&& ((((64 : Int32) / pb) - (1 : Int32)).toInt64)).toInt32) * pb) &&& 0x3f).toInt64.toUInt64).toInt64) &&& mk)), .second, .val (.int xp), .val (.long rs), .second, .unset] [(.int (lcmpW (rs &&& (1 : Int64)) (0 : Int64)))])) _
          refine XS.ifYes X13.here hx rfl (pc0 := 132) (pc' := 139) rfl (hb hby at_132) rfl ((if0 _ _).trans (teq (show (lcmpW (rs &&& (1 : Int64)) (0 : Int64)) = (0 : Int32) from ((lw_eq _ _).mpr hc132))).1) (by decide) (by decide) ?_
          show Steps p.tables e below (T13.setTop (mkF m 139 #[.val (.long q0), .second, .val (.long q1), .second, .val (.int p2), .val (.int p3), .val (.int ex), .val (.int pb), .val (.int fl), .val (.int ((64 : Int32) / pb)), .val (.int (((q1 &&& ((((64 : Int32) / pb) - (1 : Int32)).toInt64)).toInt32) * pb)), .val (.long mk), .second, .val (.long (((q0.toUInt64 >>> ((((q1 &&& ((((64 : Int32) / pb) - (1 : Int32)).toInt64)).toInt32) * pb) &&& 0x3f).toInt64.toUInt64).toInt64) &&& mk)), .second, .val (.int xp), .val (.long rs), .second, .unset] [])) _
          refine XS.iconst X13.here hx rfl (hb hby at_139) ?_
          exact kt)⟩
    · exact ⟨(1 : Int32), (by rw [actV, if_neg hc132]), fun t kt => pre15 t (by
          show Steps p.tables e below (T13.setTop (mkF m 132 #[.val (.long q0), .second, .val (.long q1), .second, .val (.int p2), .val (.int p3), .val (.int ex), .val (.int pb), .val (.int fl), .val (.int ((64 : Int32) / pb)), .val (.int (((q1 &&& ((((64 : Int32) / pb) - (1 : Int32)).toInt64)).toInt32) * pb)), .val (.long mk), .second, .val (.long (((q0.toUInt64 >>> ((((q1 &&& ((((64 : Int32) / pb) - (1 : Int32)).toInt64)).toInt32) * pb) &&& 0x3f).toInt64.toUInt64).toInt64) &&& mk)), .second, .val (.int xp), .val (.long rs), .second, .unset] [(.int (lcmpW (rs &&& (1 : Int64)) (0 : Int64)))])) _
          refine XS.ifNo X13.here hx rfl (hb hby at_132) rfl ((if0 _ _).trans (feq (show ¬ ((lcmpW (rs &&& (1 : Int64)) (0 : Int64)) = (0 : Int32)) from (fun q => hc132 ((lw_eq _ _).mp q)))).1) ?_
          show Steps p.tables e below (T13.setTop (mkF m 135 #[.val (.long q0), .second, .val (.long q1), .second, .val (.int p2), .val (.int p3), .val (.int ex), .val (.int pb), .val (.int fl), .val (.int ((64 : Int32) / pb)), .val (.int (((q1 &&& ((((64 : Int32) / pb) - (1 : Int32)).toInt64)).toInt32) * pb)), .val (.long mk), .second, .val (.long (((q0.toUInt64 >>> ((((q1 &&& ((((64 : Int32) / pb) - (1 : Int32)).toInt64)).toInt32) * pb) &&& 0x3f).toInt64.toUInt64).toInt64) &&& mk)), .second, .val (.int xp), .val (.long rs), .second, .unset] [])) _
          refine XS.iconst X13.here hx rfl (hb hby at_135) ?_
          show Steps p.tables e below (T13.setTop (mkF m 136 #[.val (.long q0), .second, .val (.long q1), .second, .val (.int p2), .val (.int p3), .val (.int ex), .val (.int pb), .val (.int fl), .val (.int ((64 : Int32) / pb)), .val (.int (((q1 &&& ((((64 : Int32) / pb) - (1 : Int32)).toInt64)).toInt32) * pb)), .val (.long mk), .second, .val (.long (((q0.toUInt64 >>> ((((q1 &&& ((((64 : Int32) / pb) - (1 : Int32)).toInt64)).toInt32) * pb) &&& 0x3f).toInt64.toUInt64).toInt64) &&& mk)), .second, .val (.int xp), .val (.long rs), .second, .unset] [(.int (1 : Int32))])) _
          refine XS.goto X13.here hx rfl (pc0 := 136) (pc' := 140) rfl (hb hby at_136) (by decide) (by decide) ?_
          exact kt)⟩
  obtain ⟨fs, hr, hrun, hended, hW, hsame⟩ := X13.leave (v := some (.int (1 : Int32))) (fun h => by rw [Bd.returns] at h; cases h)
  refine ⟨_, _, pre16 _ ?_, hrun, hended, _, _, rfl, ?_, ⟨_, rfl⟩, hW, hsame.mono (by decide) (by decide)⟩
  · show Steps p.tables e below (T13.setTop (mkF m 140 #[.val (.long q0), .second, .val (.long q1), .second, .val (.int p2), .val (.int p3), .val (.int ex), .val (.int pb), .val (.int fl), .val (.int ((64 : Int32) / pb)), .val (.int (((q1 &&& ((((64 : Int32) / pb) - (1 : Int32)).toInt64)).toInt32) * pb)), .val (.long mk), .second, .val (.long (((q0.toUInt64 >>> ((((q1 &&& ((((64 : Int32) / pb) - (1 : Int32)).toInt64)).toInt32) * pb) &&& 0x3f).toInt64.toUInt64).toInt64) &&& mk)), .second, .val (.int xp), .val (.long rs), .second, .unset] [(.int ac)])) _
    refine XS.istore X13.here hx rfl (hb hby at_140) rfl (l' := #[.val (.long q0), .second, .val (.long q1), .second, .val (.int p2), .val (.int p3), .val (.int ex), .val (.int pb), .val (.int fl), .val (.int ((64 : Int32) / pb)), .val (.int (((q1 &&& ((((64 : Int32) / pb) - (1 : Int32)).toInt64)).toInt32) * pb)), .val (.long mk), .second, .val (.long (((q0.toUInt64 >>> ((((q1 &&& ((((64 : Int32) / pb) - (1 : Int32)).toInt64)).toInt32) * pb) &&& 0x3f).toInt64.toUInt64).toInt64) &&& mk)), .second, .val (.int xp), .val (.long rs), .second, .val (.int ac)]) rfl ?_
    show Steps p.tables e below (T13.setTop (mkF m 142 #[.val (.long q0), .second, .val (.long q1), .second, .val (.int p2), .val (.int p3), .val (.int ex), .val (.int pb), .val (.int fl), .val (.int ((64 : Int32) / pb)), .val (.int (((q1 &&& ((((64 : Int32) / pb) - (1 : Int32)).toInt64)).toInt32) * pb)), .val (.long mk), .second, .val (.long (((q0.toUInt64 >>> ((((q1 &&& ((((64 : Int32) / pb) - (1 : Int32)).toInt64)).toInt32) * pb) &&& 0x3f).toInt64.toUInt64).toInt64) &&& mk)), .second, .val (.int xp), .val (.long rs), .second, .val (.int ac)] [])) _
    refine XS.iload X13.here hx rfl (hb hby at_142) rfl ?_
    show Steps p.tables e below (T13.setTop (mkF m 144 #[.val (.long q0), .second, .val (.long q1), .second, .val (.int p2), .val (.int p3), .val (.int ex), .val (.int pb), .val (.int fl), .val (.int ((64 : Int32) / pb)), .val (.int (((q1 &&& ((((64 : Int32) / pb) - (1 : Int32)).toInt64)).toInt32) * pb)), .val (.long mk), .second, .val (.long (((q0.toUInt64 >>> ((((q1 &&& ((((64 : Int32) / pb) - (1 : Int32)).toInt64)).toInt32) * pb) &&& 0x3f).toInt64.toUInt64).toInt64) &&& mk)), .second, .val (.int xp), .val (.long rs), .second, .val (.int ac)] [(.int ac)])) _
    refine XS.iload X13.here hx rfl (hb hby at_144) rfl ?_
    show Steps p.tables e below (T13.setTop (mkF m 146 #[.val (.long q0), .second, .val (.long q1), .second, .val (.int p2), .val (.int p3), .val (.int ex), .val (.int pb), .val (.int fl), .val (.int ((64 : Int32) / pb)), .val (.int (((q1 &&& ((((64 : Int32) / pb) - (1 : Int32)).toInt64)).toInt32) * pb)), .val (.long mk), .second, .val (.long (((q0.toUInt64 >>> ((((q1 &&& ((((64 : Int32) / pb) - (1 : Int32)).toInt64)).toInt32) * pb) &&& 0x3f).toInt64.toUInt64).toInt64) &&& mk)), .second, .val (.int xp), .val (.long rs), .second, .val (.int ac)] [(.int xp), (.int ac)])) _
    refine XS.icmpNo X13.here hx rfl (hb hby at_146) rfl (teq (show ac = xp from (by rw [hac, hrs, hxp, hmk, hfl, hpb, hex]; exact own_law q0 q1 (exV p2) _ (own_ex p2)))).2 ?_
    show Steps p.tables e below (T13.setTop (mkF m 149 #[.val (.long q0), .second, .val (.long q1), .second, .val (.int p2), .val (.int p3), .val (.int ex), .val (.int pb), .val (.int fl), .val (.int ((64 : Int32) / pb)), .val (.int (((q1 &&& ((((64 : Int32) / pb) - (1 : Int32)).toInt64)).toInt32) * pb)), .val (.long mk), .second, .val (.long (((q0.toUInt64 >>> ((((q1 &&& ((((64 : Int32) / pb) - (1 : Int32)).toInt64)).toInt32) * pb) &&& 0x3f).toInt64.toUInt64).toInt64) &&& mk)), .second, .val (.int xp), .val (.long rs), .second, .val (.int ac)] [])) _
    refine XS.iconst X13.here hx rfl (hb hby at_149) ?_
    show Steps p.tables e below (T13.setTop (mkF m 150 #[.val (.long q0), .second, .val (.long q1), .second, .val (.int p2), .val (.int p3), .val (.int ex), .val (.int pb), .val (.int fl), .val (.int ((64 : Int32) / pb)), .val (.int (((q1 &&& ((((64 : Int32) / pb) - (1 : Int32)).toInt64)).toInt32) * pb)), .val (.long mk), .second, .val (.long (((q0.toUInt64 >>> ((((q1 &&& ((((64 : Int32) / pb) - (1 : Int32)).toInt64)).toInt32) * pb) &&& 0x3f).toInt64.toUInt64).toInt64) &&& mk)), .second, .val (.int xp), .val (.long rs), .second, .val (.int ac)] [(.int (1 : Int32))])) _
    refine XS.goto X13.here hx rfl (pc0 := 150) (pc' := 154) rfl (hb hby at_150) (by decide) (by decide) ?_
    show Steps p.tables e below (T13.setTop (mkF m 154 #[.val (.long q0), .second, .val (.long q1), .second, .val (.int p2), .val (.int p3), .val (.int ex), .val (.int pb), .val (.int fl), .val (.int ((64 : Int32) / pb)), .val (.int (((q1 &&& ((((64 : Int32) / pb) - (1 : Int32)).toInt64)).toInt32) * pb)), .val (.long mk), .second, .val (.long (((q0.toUInt64 >>> ((((q1 &&& ((((64 : Int32) / pb) - (1 : Int32)).toInt64)).toInt32) * pb) &&& 0x3f).toInt64.toUInt64).toInt64) &&& mk)), .second, .val (.int xp), .val (.long rs), .second, .val (.int ac)] [(.int (1 : Int32))])) _
    exact retN X13 hx (t := .boolean) Bd.returns (by simp) (hb hby at_154) hr
  · show Q0 h0 n0 _ T13.heap _
    rw [e13]
    exact ⟨rfl, N13⟩
set_option maxRecDepth 65536 in
set_option maxHeartbeats 40000000 in
theorem comes_1 {Post : Tables → Env → Array Value → State → Outcome → State → Prop} (hpost : ∀ tb e args s v u, (limb_1_1.after args s (.returned v) u = true ∧ limb_1_2.after args s (.returned v) u = true ∧ True) → FrameEnd s (.returned v) u (Jvm.fieldLocs frame_1_writes args s ++ Jvm.arrayLocs frame_1_arrays args s ++ Jvm.staticLocs frame_1_statics s) 0 0 → Post tb e args s (.returned v) u) :
    ArmFor flags0 classFile x code maxLocals ret World_1 tables_1 room_1 Calls_1 rest_1 Pre_1 Post := by
  intro l hfl _ _ p e ha hc hk s m args below hf hA hF happ hP
  obtain ⟨hcalls, hrest, hpre⟩ := hP
  obtain ⟨-, -, -, hnamed, -, -, -, hat⟩ := (Spec.applies_iff hf).mp happ
  obtain ⟨hg, hn⟩ := and_e (Cond.before_iff.mp (show (Jvm.Cond.and given_1 narrow_1).before args s = true from hpre))
  obtain ⟨hcnt, hg1⟩ := and_e hg
  obtain ⟨ha0, hg2⟩ := and_e hg1
  obtain ⟨ha1, hg3⟩ := and_e hg2
  obtain ⟨ha2, hg4⟩ := and_e hg3
  have ha3 := hg4
  obtain ⟨w0, w1, w2, w3, rfl⟩ : ∃ w0 w1 w2 w3 : Value, args = #[w0, w1, w2, w3] := by
    have hs : args.size = 4 := by simpa [Cond.value, given_1] using hcnt
    obtain ⟨L⟩ := args
    match L, hs with
    | [w0, w1, w2, w3], _ => exact ⟨w0, w1, w2, w3, rfl⟩
  have hw := fun d (hd : d ∈ tables_1) => atoms_spec (ws := Jvm.Cond.code x code maxLocals ret :: tables_1) hat d (List.mem_cons_of_mem _ hd)
  have hfit : Fit s := fun {y c} hc i hi => by
    obtain ⟨ha, rfl⟩ := Array.getElem?_eq_some_iff.mp hc
    have q := List.all_eq_true.mp ((Array.all_eq_true_iff_forall_mem.mp hF) _ (Array.getElem_mem ha)) i (List.mem_range.mpr hi)
    simpa [Array.getElem?_eq_getElem hi] using q
  obtain ⟨i0, ei0⟩ := isL_v ha0
  obtain rfl : w0 = (.long i0) := Option.some.inj ei0
  obtain ⟨i1, ei1⟩ := isL_v ha1
  obtain rfl : w1 = (.long i1) := Option.some.inj ei1
  obtain ⟨i2, ei2⟩ := is_v ha2
  obtain rfl : w2 = (.int i2) := Option.some.inj ei2
  obtain ⟨i3, ei3⟩ := is_v ha3
  obtain rfl : w3 = (.int i3) := Option.some.inj ei3
  obtain ⟨n, o, h1, h2, h3, _, L, rfl, ⟨rfl, N⟩, hq⟩ := rm0 l s _ hw tables_1 i0 i1 i2 i3 s.heap s.heap.size (Nat.le_refl _) p e ha hc hk s m _ below hf ((Spec.applies_iff_loose hf).mp happ).1 ⟨rfl, State.Warmed39.refl s, rfl⟩ trivial
  refine ⟨n, _, h1, h2, h3, hpost _ _ _ _ _ _ ⟨Cond.after_iff.mpr rfl, Cond.after_iff.mpr (eq_i res_at (Term.int_eval (1)) rfl), trivial⟩ ⟨hq.1, hq.2.1, (hq.2.2.sift fun y hy => Or.inr (N y hy)).mono (by decide) (by decide)⟩⟩
theorem main_1_1 : Claimed_1_1 := comes_1 fun _ _ _ _ _ _ h hF => ⟨h.1, hF⟩
theorem main_1_2 : Claimed_1_2 := comes_1 fun _ _ _ _ _ _ h hF => ⟨h.2.1, hF⟩
end Jvm.Pilot.@@N@@
namespace Jvm.Pilot.@@N@@
open Jvm Jvm.ClassFile Sem Op Lib Jvm.Free Jvm.Stand Jvm.Pilot.@@N@@.Jvm.D
/-! MADE BY PROGRAM (witnessworld.py) out of the Statement's table words and the real class files: 9 classes; the members and pool entries that the words name. The judged class is class 1, her method 1. -/
namespace start1
open Jvm.ClassFile
def u (s : String) : CpInfo := .utf8 (stringToUtf16 s)
/-- a pool by its gaps: so many unusable entries, then the entry; so many at the end -/
def gap : Nat → List CpInfo → List CpInfo
  | 0, r => r
  | n + 1, r => .unusable :: gap n r
def poolList (es : List (Nat × CpInfo)) (last : Nat) : List CpInfo := es.foldr (fun e r => gap e.1 (e.2 :: r)) (gap last [])
def pool (es : List (Nat × CpInfo)) (last : Nat) : Array CpInfo := ⟨poolList es last⟩
def fileOf (pool : Array CpInfo) (this : Nat) (attrs : Array Attribute := #[]) (ms : Array MethodInfo := #[]) (fl : Nat := 33) (sup : Nat := 0) (ifs : Array Nat := #[]) (fds : Array FieldInfo := #[]) : ClassFile where
  minorVersion := 0
  majorVersion := 65
  constantPool := pool
  accessFlags := fl
  thisClass := this
  superClass := sup
  interfaces := ifs
  fields := fds
  methods := ms
  attributes := attrs
def plain (name : String) (sup : Option ClassId) : Class where
  name := name
  kind := .ordinary
  loader := none
  accessFlags := 33
  super := sup
  interfaces := #[]
  cf := none
  fields := #[]
  methods := #[]
  instanceTypes := #[]
  staticTypes := #[]
  resolved := #[]
  callSites := []
  init := .initialized
  statics := none
  mirror := none

def pool0 : Array CpInfo := pool [(5, u "<init>"), (0, u "()V"), (1, .class_ 10), (1, u "java/lang/Object")] 113

def k0m0 : Method := { name := "<init>", desc := "()V", sig := { parameters := [], returnType := none }, accessFlags := 1, code := none }
/-- java/lang/Object -/
def k0 : Class := { plain "java/lang/Object" none with
  accessFlags := 33
  interfaces := #[]
  cf := some (fileOf pool0 8 #[] #[{ accessFlags := 1, nameIndex := 5, descriptorIndex := 6, attributes := #[] }] 33 0 #[] #[])
  fields := #[]
  methods := #[k0m0]
  instanceTypes := #[]
  staticTypes := #[]
  resolved := Array.replicate 124 none
  statics := none }

def pool1 : Array CpInfo := pool [(2, .class_ 4), (1, u "java/lang/Object"), (0, u "<init>"), (0, u "()V"), (0, .integer 2147483647), (0, .long 18446744073709551615), (1, .methodref 11 12), (0, .class_ 13), (0, .nameAndType 14 15), (0, u "com/example/bitsieve/bitsieve/filter/Words"), (0, u "test"), (0, u "(JJIZ)J"), (0, .class_ 17), (0, u "com/example/bitsieve/bitsieve/filter/WordsTestPinLaw"), (2, u "law"), (0, u "(JJII)Z")] 3

def k1m0 : Method := { name := "<init>", desc := "()V", sig := { parameters := [], returnType := none }, accessFlags := 2, code := none }
def k1c1 : Code := { maxStack := 6, maxLocals := 19, code := code, exceptionTable := #[], attributes := #[] }
def k1m1 : Method := { name := "law", desc := "(JJII)Z", sig := { parameters := [.long, .long, .int, .int], returnType := some .boolean }, accessFlags := 9, code := some k1c1 }
/-- com/example/bitsieve/bitsieve/filter/WordsTestPinLaw -/
def k1 : Class := { plain "com/example/bitsieve/bitsieve/filter/WordsTestPinLaw" (some 0) with
  accessFlags := 49
  interfaces := #[]
  cf := some (fileOf pool1 16 #[] #[{ accessFlags := 2, nameIndex := 5, descriptorIndex := 6, attributes := #[] }, { accessFlags := 9, nameIndex := 20, descriptorIndex := 21, attributes := #[] }] 49 2 #[] #[])
  fields := #[]
  methods := #[k1m0, k1m1]
  instanceTypes := #[]
  staticTypes := #[]
  resolved := Array.replicate 25 none
  statics := none }

def pool2 : Array CpInfo := pool [(2, .class_ 4), (1, u "java/lang/Object"), (0, u "<init>"), (0, u "()V"), (0, .class_ 8), (0, u "com/example/bitsieve/bitsieve/filter/Words"), (25, u "test"), (0, u "(JJIZ)J"), (8, .methodref 7 45), (0, .nameAndType 46 47), (0, u "shift"), (0, u "(JI)I"), (0, u "MOST_ON_HEAP"), (0, u "I"), (2, u "WORD_BITS_SHIFT")] 22

def k2m0 : Method := { name := "<init>", desc := "()V", sig := { parameters := [], returnType := none }, accessFlags := 0, code := none }
def k2c1 : Code := { maxStack := 2, maxLocals := 3, code := prog_25_method_11_code, exceptionTable := #[], attributes := #[] }
def k2m1 : Method := { name := "shift", desc := "(JI)I", sig := { parameters := [.long, .int], returnType := some .int }, accessFlags := 8, code := some k2c1 }
def k2c2 : Code := { maxStack := 5, maxLocals := 9, code := prog_25_method_12_code, exceptionTable := #[], attributes := #[] }
def k2m2 : Method := { name := "test", desc := "(JJIZ)J", sig := { parameters := [.long, .long, .int, .boolean], returnType := some .long }, accessFlags := 8, code := some k2c2 }
/-- com/example/bitsieve/bitsieve/filter/Words -/
def k2 : Class := { plain "com/example/bitsieve/bitsieve/filter/Words" (some 0) with
  accessFlags := 1056
  interfaces := #[]
  cf := some (fileOf pool2 7 #[] #[{ accessFlags := 0, nameIndex := 5, descriptorIndex := 6, attributes := #[] }, { accessFlags := 8, nameIndex := 46, descriptorIndex := 47, attributes := #[] }, { accessFlags := 8, nameIndex := 34, descriptorIndex := 35, attributes := #[] }] 1056 2 #[] #[{ accessFlags := 26, nameIndex := 48, descriptorIndex := 49, attributes := #[] }, { accessFlags := 26, nameIndex := 52, descriptorIndex := 49, attributes := #[] }])
  fields := #[{ name := "MOST_ON_HEAP", type := .int, accessFlags := 26, slot := 0, constantValue := 0 }, { name := "WORD_BITS_SHIFT", type := .int, accessFlags := 26, slot := 1, constantValue := 0 }]
  methods := #[k2m0, k2m1, k2m2]
  instanceTypes := #[]
  staticTypes := #[.int, .int]
  resolved := Array.replicate 75 none
  statics := none }

def pool3 : Array CpInfo := pool [(1, u "java/lang/Cloneable"), (0, .class_ 1), (0, u "java/lang/Object"), (0, .class_ 3)] 3

/-- java/lang/Cloneable -/
def k3 : Class := { plain "java/lang/Cloneable" (some 0) with
  accessFlags := 1537
  interfaces := #[]
  cf := some (fileOf pool3 2 #[] #[] 1537 4 #[] #[])
  fields := #[]
  methods := #[]
  instanceTypes := #[]
  staticTypes := #[]
  resolved := Array.replicate 8 none
  statics := none }

def pool4 : Array CpInfo := pool [(1, u "java/io/Serializable"), (0, .class_ 1), (0, u "java/lang/Object"), (0, .class_ 3)] 3

/-- java/io/Serializable -/
def k4 : Class := { plain "java/io/Serializable" (some 0) with
  accessFlags := 1537
  interfaces := #[]
  cf := some (fileOf pool4 2 #[] #[] 1537 4 #[] #[])
  fields := #[]
  methods := #[]
  instanceTypes := #[]
  staticTypes := #[]
  resolved := Array.replicate 8 none
  statics := none }

/-- the primitive byte -/
def k5 : Class := { plain "byte" none with kind := .primitive 'B', accessFlags := 0x411 }
/-- [B -/
def k6 : Class := { plain "[B" (some 0) with kind := .array 5 .byte, interfaces := #[3, 4], accessFlags := 1041 }

/-- the primitive int -/
def k7 : Class := { plain "int" none with kind := .primitive 'I', accessFlags := 0x411 }
/-- [I -/
def k8 : Class := { plain "[I" (some 0) with kind := .array 7 .int, interfaces := #[3, 4], accessFlags := 1041 }

def heap : Heap := #[]
def classes : Array Class := #[k0, k1, k2, k3, k4, k5, k6, k7, k8]
def interned : List (Array UInt16 × Addr) := []
def slotsUsed : Nat := 0
def theMethod : MethodId := ⟨1, 1⟩
def args0 : Array Value := #[.long 5, .long 7, .int 3, .int 1]
def aboutOver (below : List Frame) : State where
  vm := { classes := classes, interned := interned.toArray }
  heap := heap
  slotsUsed := slotsUsed
  threads := #[{ frames := .invoking theMethod args0 :: below }]
def below0 : List Frame := [.native { method := ⟨0, 0⟩, args := #[] }]
def about1 : State := aboutOver below0
def p0 : Program := .bare "" "" ""
def e0 : Env := launch0.env 0 0 0
theorem w_frames : about1.frames = Frame.invoking theMethod args0 :: below0 := rfl
set_option maxRecDepth 65536 in
theorem w_args : argsFit about1.vm theMethod args0 = true := by decide +kernel
set_option maxRecDepth 65536 in
theorem w_heap : heapFits about1 = true := by decide +kernel
set_option maxRecDepth 65536 in
theorem w_runnable : about1.curStatus? = some .runnable := by decide +kernel
set_option maxRecDepth 65536 in
theorem w_alone : about1.alone = true := by decide +kernel
set_option maxRecDepth 65536 in
theorem w_named : about1.methodNamed? x = some theMethod := by decide +kernel
set_option maxRecDepth 65536 in
theorem w_hears : about1.hears theMethod below0 = true := by decide +kernel
set_option maxRecDepth 65536 in
theorem w_ripe : about1.ripe theMethod args0 below0 = true := by decide +kernel
theorem w_running : about1.status = .running := rfl
set_option maxRecDepth 65536 in
theorem w_room : about1.hasRoom e0.platform room_1 = true :=
  launch0.hasRoom_least _ room_1 (by decide +kernel) (by decide +kernel) (by decide +kernel) (by decide +kernel) (by decide +kernel) (by decide +kernel)
theorem allAtoms_all (ts : List Jvm.Cond) (a : Array Jvm.Value) (st : Jvm.State) : (allAtoms ts).before a st = ts.all (fun c => c.before a st) := by
  induction ts with
  | nil => rfl
  | cons c t ih =>
    show (Jvm.Cond.and c (allAtoms t)).before a st = _
    rw [Jvm.Cond.before_and, ih, List.all_cons]
def words1 : List Jvm.Cond := Jvm.Cond.code x code maxLocals ret :: tables_1
/-- a 'code' word, met by the world's own term for the bytes: nothing is compared byte by byte -/
theorem code_word {y : MethodName} {bytes : ByteArray} {mx : Nat} {rt : Option FieldType} {a : Array Value} {s : State} {m : MethodId} {meth : Method} {c : Code} (h1 : s.methodNamed? y = some m) (h2 : s.vm.method? m = some meth) (h3 : meth.code = some c) (h4 : c.code = bytes)
    (h5 : (c.maxLocals == mx && c.exceptionTable.isEmpty && decide (c.maxStack ≤ mostOperands) && decide (meth.sig.returnType = rt) && !meth.locks && decide (parseMethodDescriptor y.desc = some meth.sig)) = true) : (Jvm.Cond.code y bytes mx rt).before a s = true := by
  simp only [Bool.and_eq_true, beq_iff_eq, Bool.not_eq_true', decide_eq_true_eq] at h5
  obtain ⟨⟨⟨⟨⟨g1, g2⟩, g3⟩, g4⟩, g5⟩, g6⟩ := h5
  simp [Cond.before, Cond.holds, Cond.value, h1, h2, h3, h4, g1, g2, g3, g4, g5, g6]
def isCode : Jvm.Cond → Bool
  | .code _ _ _ _ => true
  | _ => false
theorem all_split {L : List Jvm.Cond} {P : Jvm.Cond → Bool} (h1 : L.all (fun c => isCode c || P c) = true) (h2 : ∀ c ∈ L.filter isCode, P c = true) : L.all P = true := by
  refine List.all_eq_true.mpr fun c hc => ?_
  have h := List.all_eq_true.mp h1 c hc
  rcases Bool.eq_false_or_eq_true (isCode c) with hi | hi
  · exact h2 c (List.mem_filter.mpr ⟨hc, hi⟩)
  · simpa [hi] using h
set_option maxRecDepth 65536 in
theorem w_c0 : (Jvm.Cond.code x code maxLocals ret).before args0 about1 = true := code_word (m := ⟨1, 1⟩) (meth := k1m1) (c := k1c1) (by decide +kernel) rfl rfl rfl (by decide +kernel)
set_option maxRecDepth 65536 in
theorem w_c1 : (Jvm.Cond.code ({ cls := "com/example/bitsieve/bitsieve/filter/Words", name := "test", desc := "(JJIZ)J" } : Jvm.MethodName) prog_25_method_12_code (9 : Nat) (Option.some Jvm.ClassFile.FieldType.long)).before args0 about1 = true := code_word (m := ⟨2, 2⟩) (meth := k2m2) (c := k2c2) (by decide +kernel) rfl rfl rfl (by decide +kernel)
set_option maxRecDepth 65536 in
theorem w_c2 : (Jvm.Cond.code ({ cls := "com/example/bitsieve/bitsieve/filter/Words", name := "shift", desc := "(JI)I" } : Jvm.MethodName) prog_25_method_11_code (3 : Nat) (Option.some Jvm.ClassFile.FieldType.int)).before args0 about1 = true := code_word (m := ⟨2, 1⟩) (meth := k2m1) (c := k2c1) (by decide +kernel) rfl rfl rfl (by decide +kernel)
def codes1 : List Jvm.Cond := [Jvm.Cond.code x code maxLocals ret, Jvm.Cond.code ({ cls := "com/example/bitsieve/bitsieve/filter/Words", name := "test", desc := "(JJIZ)J" } : Jvm.MethodName) prog_25_method_12_code (9 : Nat) (Option.some Jvm.ClassFile.FieldType.long), Jvm.Cond.code ({ cls := "com/example/bitsieve/bitsieve/filter/Words", name := "shift", desc := "(JI)I" } : Jvm.MethodName) prog_25_method_11_code (3 : Nat) (Option.some Jvm.ClassFile.FieldType.int)]
set_option maxRecDepth 65536 in
theorem codes_eq : words1.filter isCode = codes1 := rfl
theorem w_codes : ∀ c ∈ words1.filter isCode, c.before args0 about1 = true := by
  rw [codes_eq]
  intro c hc
  simp only [codes1, List.mem_cons, List.not_mem_nil, or_false] at hc
  rcases hc with rfl | rfl | rfl
  · exact w_c0
  · exact w_c1
  · exact w_c2
set_option maxRecDepth 65536 in
theorem w_t1 : words1.all (fun c => isCode c || c.before args0 about1) = true := by decide +kernel
theorem w_tables : (allAtoms (Jvm.Cond.code x code maxLocals ret :: tables_1)).before args0 about1 = true := by
  rw [allAtoms_all]
  show words1.all (fun c => c.before args0 about1) = true
  refine all_split ?_ w_codes
  rw [w_t1]
set_option maxRecDepth 65536 in
theorem w_case : (Jvm.Cond.and given_1 narrow_1).before args0 about1 = true := by decide +kernel
theorem w_applies : (headSpec (Jvm.Cond.code x code maxLocals ret :: tables_1) room_1).applies x e0.platform about1 = true :=
  (Spec.applies_iff w_frames).mpr ⟨w_running, w_runnable, w_alone, w_named, w_hears, w_ripe, w_room, w_tables⟩
theorem atStart : AtStart classFile x code maxLocals ret World_1 tables_1 room_1 Calls_1 rest_1 Pre_1 launch0 p0 e0 about1 theMethod args0 below0 :=
  ⟨lists_1, trivial, launch0.admits_env _ _ _, launch0.least_env, fairChoices_fair.cas, fairChoices_fair.clock, w_frames, w_args, w_heap, w_applies, trivial, trivial, w_case⟩
end start1
theorem witness_1 : WitnessClaimed_1 := ⟨start1.p0, start1.e0, start1.about1, start1.theMethod, start1.args0, start1.below0, start1.atStart⟩
end Jvm.Pilot.@@N@@
