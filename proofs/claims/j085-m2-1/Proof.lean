import JvmDerived
import JvmDerived.Pilot.@@N@@Statement
import JvmDerived.Pilot.@@N@@Code
set_option linter.unusedVariables false
set_option linter.unusedSimpArgs false
namespace Jvm.RoadKit
open Sem ClassFile Op Lib Jvm.Stand Jvm.Free Jvm.LawKit
section New
variable {p : Program} {l : Launch} {e : Env} {R : Room} {s : State} {m : MethodId} {args : Array Value} {below : List Frame} {meth : Method} {c : Code} {T : State} {locs : List Loc} {cells slots : Nat}
theorem retI (X : Stand p l e R s m args below meth c T locs cells slots) (hx : p.tables.exec = Jvm.exec) {pc : Nat} {Ls : Array Slot} {z : Int32} {rest : List Value} (hret : meth.sig.returnType = some .int) (hd : decode c.code pc = .ok (.ireturn, 1)) {fs : List Frame}
    (hl : ∀ (f : JFrame) (acts : List Action), f.method = m → f.locked = none → f.entered = [] → (doReturn e (T.setTop f) acts (some (.int z))).1 = T.setFrames fs) : Steps p.tables e below (T.setTop (mkF m pc Ls (.int z :: rest))) (T.setFrames fs) := by
  have hm' : T.vm.method? m = some meth := X.method'
  have hn : narrow .int (.int z) = .int z := rfl
  show Steps p.tables e below (T.setTop { method := m, pc := pc, locals := Ls, stack := _ :: rest, locked := none }) _
  jvm_step X.here [X.here.top, hx, hd, hm', hret, hn]
  first | (intro acts; rw [hl _ acts rfl rfl rfl]) | rw [hl _ _ rfl rfl rfl]
  exact Steps.refl _
end New
end Jvm.RoadKit
namespace Jvm.Pilot.@@N@@
open Jvm Jvm.ClassFile Sem Op Lib Jvm.Free Jvm.Stand Jvm.LawKit Jvm.RoadKit Bundle Jvm.Pilot.@@N@@.Jvm.D
theorem own_side0 {h0 : Heap} {ws : List Addr} : ∀ x ∈ ([] : List Addr), x ∈ ws ∨ h0.size ≤ x := fun _ q => nomatch q
theorem own_side1 {h0 : Heap} {ws : List Addr} {a : Addr} (h : a ∈ ws ∨ h0.size ≤ a) : ∀ x ∈ [a], x ∈ ws ∨ h0.size ≤ x := fun x q => by
  cases List.mem_singleton.mp q; exact h
theorem own_side2 {h0 : Heap} {ws : List Addr} {a b : Addr} (h : a ∈ ws ∨ h0.size ≤ a) (h' : b ∈ ws ∨ h0.size ≤ b) : ∀ x ∈ [a, b], x ∈ ws ∨ h0.size ≤ x := fun x q => by
  rcases List.mem_cons.mp q with rfl | q
  · exact h
  · exact own_side1 h' x q
theorem own_side3 {h0 : Heap} {ws : List Addr} {a b d : Addr} (h : a ∈ ws ∨ h0.size ≤ a) (h' : b ∈ ws ∨ h0.size ≤ b) (h'' : d ∈ ws ∨ h0.size ≤ d) : ∀ x ∈ [a, b, d], x ∈ ws ∨ h0.size ≤ x := fun x q => by
  rcases List.mem_cons.mp q with rfl | q
  · exact h
  · exact own_side2 h' h'' x q
theorem own_notin1 {x a : Addr} (h : x ≠ a) : x ∉ [a] := fun q => h (List.mem_singleton.mp q)
theorem own_notin2 {x a b : Addr} (h : x ≠ a) (h' : x ≠ b) : x ∉ [a, b] := fun q => by
  rcases List.mem_cons.mp q with q | q
  · exact h q
  · exact own_notin1 h' q
theorem own_notin3 {x a b d : Addr} (h : x ≠ a) (h' : x ≠ b) (h'' : x ≠ d) : x ∉ [a, b, d] := fun q => by
  rcases List.mem_cons.mp q with q | q
  · exact h q
  · exact own_notin2 h' h'' q
theorem own_rem (x y : Int32) (hx : 0 ≤ x.toInt) (hy : 0 < y.toInt) : (x - (x / y) * y).toInt = x.toInt % y.toInt := by
  have hx2 := x.toInt_lt
  have hy2 := y.toInt_lt
  have hd : (x / y).toInt = x.toInt / y.toInt := by
    rw [Int32.toInt_div, Int.tdiv_eq_ediv_of_nonneg hx]
    have h1 : 0 ≤ x.toInt / y.toInt := Int.ediv_nonneg hx (Int.le_of_lt hy)
    have h2 : x.toInt / y.toInt ≤ x.toInt := Int.ediv_le_self _ hx
    exact Int.bmod_eq_of_le (by omega) (by omega)
  have hm : ((x / y) * y).toInt = (x.toInt / y.toInt) * y.toInt := by
    rw [Int32.toInt_mul, hd]
    have h1 : 0 ≤ x.toInt / y.toInt * y.toInt := Int.mul_nonneg (Int.ediv_nonneg hx (Int.le_of_lt hy)) (Int.le_of_lt hy)
    have h2 := Int.ediv_mul_le x.toInt (Int.ne_of_gt hy)
    exact Int.bmod_eq_of_le (by omega) (by omega)
  have h3 := Int.emod_add_mul_ediv x.toInt y.toInt
  have h4 := Int.emod_nonneg x.toInt (Int.ne_of_gt hy)
  have h5 := Int.emod_lt_of_pos x.toInt hy
  rw [Int32.toInt_sub, hm]
  have h6 : x.toInt - x.toInt / y.toInt * y.toInt = x.toInt % y.toInt := by rw [Int.mul_comm (x.toInt / y.toInt)]; omega
  rw [h6]
  exact Int.bmod_eq_of_le (by omega) (by omega)
theorem own_and31 (p : Int32) : 0 ≤ (p &&& (2147483647 : Int32)).toInt := by
  have h : (p &&& (2147483647 : Int32)).toBitVec.toNat ≤ 2147483647 := by
    simp only [Int32.toBitVec_and, BitVec.toNat_and]
    exact Nat.and_le_right
  have e : (p &&& (2147483647 : Int32)).toInt = ((p &&& (2147483647 : Int32)).toBitVec.toNat : Int) := BitVec.toInt_eq_toNat_of_lt (by omega)
  omega
def upd (f : Int32 → Int32) (j v : Int32) : Int32 → Int32 := fun i => if i = j then v else f i
abbrev NSt := Int32 × (Int32 → Int32) × (Int32 → Int32) × (Int32 → Int32) × (Int32 → Int32) × (Int32 → Int32) × (Int32 → Int32)
abbrev Key := Int32 × Int32 × Int32 × Int32 × Int32
def nS (s : NSt) : Int32 := s.1
def cpS (s : NSt) : Int32 → Int32 := s.2.1
def frS (s : NSt) : Int32 → Int32 := s.2.2.1
def loS (s : NSt) : Int32 → Int32 := s.2.2.2.1
def eqS (s : NSt) : Int32 → Int32 := s.2.2.2.2.1
def hiS (s : NSt) : Int32 → Int32 := s.2.2.2.2.2.1
def slS (s : NSt) : Int32 → Int32 := s.2.2.2.2.2.2
def rowS (s : NSt) (i : Int32) : Key := (cpS s i, frS s i, loS s i, eqS s i, hiS s i)
def stepH (x : Int64) (v : Int32) : Int64 := ((x + (v.toInt64)) * (-7046029254386353131 : Int64))
def hashV (a b c d e : Int32) : Int32 := ((((stepH (stepH (stepH (stepH (stepH (0 : Int64) a) b) c) d) e).toUInt64 >>> ((32 : Int32) &&& 0x3f).toInt64.toUInt64).toInt64).toInt32)
def startV (a b c d e : Int32) : Int32 := ((hashV a b c d e) &&& (127 : Int32))
def probe (s : NSt) (k : Key) : Nat → Int32 → Option Int32
  | 0, _ => none
  | n + 1, i => if slS s i = (-1 : Int32) then some i else if rowS s (slS s i) = k then some i else probe s k n ((i + (1 : Int32)) &&& (127 : Int32))
def holdsV (s : NSt) (i a b c d e : Int32) : Int32 := if cpS s i = a then (if frS s i = b then (if loS s i = c then (if eqS s i = d then (if hiS s i = e then 1 else 0) else 0) else 0) else 0) else 0
def InR (i : Int32) : Prop := ¬ i < 0 ∧ i < (128 : Int32)
def Sound (s : NSt) : Prop := ∀ i, InR i → slS s i = (-1 : Int32) ∨ (¬ slS s i < 0 ∧ slS s i < (64 : Int32))
def slotV (s : NSt) (a b c d e : Int32) : Int32 := (probe s (a, b, c, d, e) 8 (startV a b c d e)).getD 0
def Found (s : NSt) (a b c d e : Int32) : Prop := probe s (a, b, c, d, e) 8 (startV a b c d e) = some (slotV s a b c d e)
def findV (s : NSt) (a b c d e : Int32) : Int32 := slS s (slotV s a b c d e)
def addS (s : NSt) (a b c d e : Int32) : NSt := if findV s a b c d e = (-1 : Int32) then (nS s + 1, upd (cpS s) (nS s) a, upd (frS s) (nS s) b, upd (loS s) (nS s) c, upd (eqS s) (nS s) d, upd (hiS s) (nS s) e, upd (slS s) (slotV s a b c d e) (nS s)) else s
def addV (s : NSt) (a b c d e : Int32) : Int32 := if findV s a b c d e = (-1 : Int32) then nS s else findV s a b c d e
def emptyS : NSt := (0, (fun _ => 0), (fun _ => 0), (fun _ => 0), (fun _ => 0), (fun _ => 0), (fun _ => -1))
theorem own_mask127 (x : Int32) : InR (x &&& (127 : Int32)) := by
  have h : (x &&& (127 : Int32)).toBitVec.toNat ≤ 127 := by
    simp only [Int32.toBitVec_and, BitVec.toNat_and]
    exact Nat.and_le_right
  have e : (x &&& (127 : Int32)).toInt = ((x &&& (127 : Int32)).toBitVec.toNat : Int) := BitVec.toInt_eq_toNat_of_lt (by omega)
  unfold InR
  rw [Int32.lt_iff_toInt_lt, Int32.lt_iff_toInt_lt, e]
  show ¬ (_ < (0 : Int)) ∧ _ < (128 : Int)
  omega
theorem own_holds_row (s : NSt) (i a b c d e : Int32) : (¬ holdsV s i a b c d e = 0) ↔ rowS s i = (a, b, c, d, e) := by
  unfold holdsV rowS
  simp only [Prod.mk.injEq]
  constructor
  · intro h
    repeat' split at h
    all_goals first | (exact absurd rfl h) | skip
    rename_i h1 h2 h3 h4 h5
    exact ⟨h1, h2, h3, h4, h5⟩
  · rintro ⟨h1, h2, h3, h4, h5⟩
    rw [if_pos h1, if_pos h2, if_pos h3, if_pos h4, if_pos h5]; decide
def ArF (Z : State) (h : Heap) (a : Addr) (len : Int32) (f : Int32 → Int32) : Prop := ∃ c : Cell, Arr Z h a c .int ∧ c.slots.size = len.toNatClampNeg ∧ ¬ len < 0 ∧ ∀ j : Int32, ¬ j < 0 → j < len → c.slots[j.toNatClampNeg]? = some (.int (f j))
theorem ArF.lt {Z : State} {h : Heap} {a : Addr} {len : Int32} {f : Int32 → Int32} (F : ArF Z h a len f) : a < h.size := by obtain ⟨c, A, -⟩ := F; exact A.lt
theorem ArF.ext {Z : State} {h h' : Heap} {a : Addr} {len : Int32} {f : Int32 → Int32} (F : ArF Z h a len f) (E : Ext h h') : ArF Z h' a len f := by obtain ⟨c, A, r⟩ := F; exact ⟨c, A.ext E, r⟩
theorem ArF.other {Z : State} {h h' : Heap} {a b : Addr} {sl : Nat} {v : Value} {len : Int32} {f : Int32 → Int32} (F : ArF Z h b len f) (W : Wr h h' a sl v) (q : b ≠ a) : ArF Z h' b len f := by obtain ⟨c, A, r⟩ := F; exact ⟨c, A.other W q, r⟩
theorem ArF.keep {Z : State} {h h' : Heap} {a : Addr} {ws : List Addr} {len : Int32} {f : Int32 → Int32} (F : ArF Z h a len f) (K : Keep h h' ws) (q : a ∉ ws) : ArF Z h' a len f := by obtain ⟨c, A, r⟩ := F; exact ⟨c, ⟨K.2.1 a c A.1 q, A.2⟩, r⟩
theorem own_arf_new {Z : State} {h : Heap} {a : Addr} {k : ClassId} {z : Int32} (A : Arr Z h a (newA k .int z) .int) (q : ¬ z < 0) : ArF Z h a z (fun _ => (0 : Int32)) := by
  have V := Arv.new A q
  obtain ⟨c, A', q1, S, q3, H, G⟩ := V
  refine ⟨c, A', S, q3, fun j h0 h1 => ?_⟩
  exact H.at (inb_of S ⟨h0, h1⟩) rfl
theorem own_toNat_inj {i j : Int32} (hi : ¬ i < 0) (hj : ¬ j < 0) (h : i.toNatClampNeg = j.toNatClampNeg) : i = j := by
  apply Int32.toInt_inj.mp
  rw [Int32.lt_iff_toInt_lt] at hi hj
  have hi' : ¬ i.toInt < 0 := hi
  have hj' : ¬ j.toInt < 0 := hj
  have h' : i.toInt.toNat = j.toInt.toNat := h
  omega
theorem own_arf_set {Z : State} {h h' : Heap} {a : Addr} {c : Cell} {len j v : Int32} {f : Int32 → Int32} (A : Arr Z h a c .int) (S : c.slots.size = len.toNatClampNeg) (N : ¬ len < 0) (H : ∀ j : Int32, ¬ j < 0 → j < len → c.slots[j.toNatClampNeg]? = some (.int (f j))) (W : Wr h h' a j.toNatClampNeg (.int v)) (ib : ¬ j < 0 ∧ j < len) : ArF Z h' a len (upd f j v) := by
  refine ⟨c.setSlot j.toNatClampNeg (.int v), A.same W, by rw [← S]; simp [Cell.setSlot], N, fun i h0 h1 => ?_⟩
  obtain ⟨cb', e1, -, -, -, -, e6, e7⟩ := wr_at W A.1
  obtain ⟨e8, e9, -⟩ := e7 rfl
  rw [← e8]
  unfold upd
  split
  · next h => rw [h]; exact e9
  · next h => rw [e6 _ (fun q => h (own_toNat_inj h0 ib.1 q))]; exact H i h0 h1
theorem own_selp {s : State} {args : Array Value} {D : String} {y y' : MethodName} (hD : y.cls = D) (hD' : y'.cls = D) (hs : (Jvm.Cond.selects D y' y').before args s = true) (hi : (Jvm.Cond.instanceMethod y).before args s = true) (hp : s.PrivateAt y) (hy : y.cls ≠ "java/lang/invoke/MethodHandle" ∧ y.cls ≠ "java/lang/invoke/VarHandle" := by decide) : (Jvm.Cond.selects y.cls y y).before args s = true := by
  obtain ⟨c2, r2, m2, q1, q2, q3, q4, kP, hkP, hkPi⟩ := Cond.selects_spec hs
  exact selects_self_of_private (c := m2.cls) (k := kP) (by rw [hD, ← hD']; exact findClass_of_methodNamed q3) hkP hkPi hp hi hy
def NS (Z : State) (h : Heap) (n0 : Nat) (o0 cp fr lo eq hi sl : Addr) (st : NSt) : Prop := Exa Z h o0 "com/example/libforeword/libforeword/tree/NodeStore" ∧ Fld Z h o0 "com/example/libforeword/libforeword/tree/NodeStore" "codePoints" "[I" (.ref cp) ∧ Fld Z h o0 "com/example/libforeword/libforeword/tree/NodeStore" "frequencies" "[I" (.ref fr) ∧ Fld Z h o0 "com/example/libforeword/libforeword/tree/NodeStore" "lows" "[I" (.ref lo) ∧ Fld Z h o0 "com/example/libforeword/libforeword/tree/NodeStore" "equals" "[I" (.ref eq) ∧ Fld Z h o0 "com/example/libforeword/libforeword/tree/NodeStore" "highs" "[I" (.ref hi) ∧ Fld Z h o0 "com/example/libforeword/libforeword/tree/NodeStore" "slots" "[I" (.ref sl) ∧ Fld Z h o0 "com/example/libforeword/libforeword/tree/NodeStore" "size" "I" (.int (nS st)) ∧ ArF Z h cp (64 : Int32) (cpS st) ∧ ArF Z h fr (64 : Int32) (frS st) ∧ ArF Z h lo (64 : Int32) (loS st) ∧ ArF Z h eq (64 : Int32) (eqS st) ∧ ArF Z h hi (64 : Int32) (hiS st) ∧ ArF Z h sl (128 : Int32) (slS st) ∧ n0 ≤ o0 ∧ n0 ≤ cp ∧ n0 ≤ fr ∧ n0 ≤ lo ∧ n0 ≤ eq ∧ n0 ≤ hi ∧ n0 ≤ sl
def Dist (o0 cp fr lo eq hi sl : Addr) : Prop := o0 ≠ cp ∧ o0 ≠ fr ∧ o0 ≠ lo ∧ o0 ≠ eq ∧ o0 ≠ hi ∧ o0 ≠ sl ∧ cp ≠ fr ∧ cp ≠ lo ∧ cp ≠ eq ∧ cp ≠ hi ∧ cp ≠ sl ∧ fr ≠ lo ∧ fr ≠ eq ∧ fr ≠ hi ∧ fr ≠ sl ∧ lo ≠ eq ∧ lo ≠ hi ∧ lo ≠ sl ∧ eq ≠ hi ∧ eq ≠ sl ∧ hi ≠ sl
theorem own_side7 {h0 : Heap} {ws : List Addr} {a1 a2 a3 a4 a5 a6 a7 : Addr} (h1 : a1 ∈ ws ∨ h0.size ≤ a1) (h2 : a2 ∈ ws ∨ h0.size ≤ a2) (h3 : a3 ∈ ws ∨ h0.size ≤ a3) (h4 : a4 ∈ ws ∨ h0.size ≤ a4) (h5 : a5 ∈ ws ∨ h0.size ≤ a5) (h6 : a6 ∈ ws ∨ h0.size ≤ a6) (h7 : a7 ∈ ws ∨ h0.size ≤ a7) : ∀ x ∈ [a1, a2, a3, a4, a5, a6, a7], x ∈ ws ∨ h0.size ≤ x := fun x q => by
  simp only [List.mem_cons, List.not_mem_nil, or_false] at q
  rcases q with rfl | rfl | rfl | rfl | rfl | rfl | rfl <;> assumption
theorem own_notin7 {x a1 a2 a3 a4 a5 a6 a7 : Addr} (h1 : x ≠ a1) (h2 : x ≠ a2) (h3 : x ≠ a3) (h4 : x ≠ a4) (h5 : x ≠ a5) (h6 : x ≠ a6) (h7 : x ≠ a7) : x ∉ [a1, a2, a3, a4, a5, a6, a7] := fun q => by
  simp only [List.mem_cons, List.not_mem_nil, or_false] at q
  rcases q with q | q | q | q | q | q | q
  · exact h1 q
  · exact h2 q
  · exact h3 q
  · exact h4 q
  · exact h5 q
  · exact h6 q
  · exact h7 q
def Ready (s : NSt) (a b c d e : Int32) : Prop := Sound s ∧ Found s a b c d e ∧ (¬ nS s < 0 ∧ nS s < (16 : Int32)) ∧ InR (slotV s a b c d e)
theorem own_sound {s : NSt} (hS : Sound s) {i : Int32} (hi : InR i) (h : ¬ slS s i = (-1 : Int32)) : ¬ slS s i < 0 ∧ slS s i < (64 : Int32) := (hS i hi).resolve_left h
theorem own_nlt {n : Int32} (h : ¬ n < 0 ∧ n < (16 : Int32)) : ¬ n < 0 ∧ n < (64 : Int32) := by
  refine ⟨h.1, ?_⟩
  have h2 := h.2
  rw [Int32.lt_iff_toInt_lt] at *
  exact Int.lt_trans h2 (by decide)
theorem own_n64 {n : Int32} (h : ¬ n < 0 ∧ n < (16 : Int32)) : ¬ n = (64 : Int32) := fun q => by
  rw [q] at h; exact absurd h.2 (by decide)
theorem own_n2 {n : Int32} (h : ¬ n < 0 ∧ n < (16 : Int32)) : ¬ ((128 : Int32) < ((n + (1 : Int32)) * (2 : Int32))) := by
  obtain ⟨h1, h2⟩ := h
  rw [Int32.lt_iff_toInt_lt] at h1 h2
  have h1' : ¬ n.toInt < 0 := h1
  have h2' : n.toInt < 16 := h2
  have e1 : (n + (1 : Int32)).toInt = n.toInt + 1 := by
    rw [Int32.toInt_add]; exact Int.bmod_eq_of_le (by show _ ≤ n.toInt + 1; omega) (by show n.toInt + 1 < _; omega)
  have e2 : ((n + (1 : Int32)) * (2 : Int32)).toInt = (n.toInt + 1) * 2 := by
    rw [Int32.toInt_mul, e1]; exact Int.bmod_eq_of_le (by show _ ≤ (n.toInt + 1) * 2; omega) (by show (n.toInt + 1) * 2 < _; omega)
  rw [Int32.lt_iff_toInt_lt, e2]
  show ¬ ((128 : Int) < _)
  omega
theorem own_of_eq {i len j : Int32} (h : i.toInt + ((0 : Nat) : Int) = len.toInt) (hj : j < len) : j < i := by
  rw [Int32.lt_iff_toInt_lt] at *; omega
theorem ArF.congr {Z : State} {h : Heap} {a : Addr} {len : Int32} {f g : Int32 → Int32} (F : ArF Z h a len f) (q : ∀ j, ¬ j < 0 → j < len → f j = g j) : ArF Z h a len g := by
  obtain ⟨c, A, S, N, H⟩ := F
  exact ⟨c, A, S, N, fun j h0 h1 => by rw [← q j h0 h1]; exact H j h0 h1⟩
theorem own_fill_lt {i len : Int32} {k : Nat} (h : i.toInt + ((k + 1 : Nat) : Int) = len.toInt) : i < len := by
  rw [Int32.lt_iff_toInt_lt]; omega
theorem own_fill_ge {i len : Int32} (h : i.toInt + ((0 : Nat) : Int) = len.toInt) : ¬ i < len := by
  rw [Int32.lt_iff_toInt_lt]; omega
theorem own_fill_step {f : Int32 → Int32} {i len v : Int32} (h0 : ¬ i < 0) (hlt : i < len) (hf : ∀ j, ¬ j < 0 → j < i → f j = v) : (¬ (i + (1 : Int32)) < 0) ∧ (∀ j, ¬ j < 0 → j < (i + (1 : Int32)) → upd f i v j = v) ∧ (i + (1 : Int32)).toInt = i.toInt + 1 := by
  have hl := len.toInt_lt
  rw [Int32.lt_iff_toInt_lt] at h0 hlt
  have h0' : ¬ i.toInt < 0 := h0
  have e : (i + (1 : Int32)).toInt = i.toInt + 1 := by
    rw [Int32.toInt_add]; exact Int.bmod_eq_of_le (by show _ ≤ i.toInt + 1; omega) (by show i.toInt + 1 < _; omega)
  refine ⟨?_, fun j hj hjl => ?_, e⟩
  · rw [Int32.lt_iff_toInt_lt, e]; show ¬ (i.toInt + 1 < 0); omega
  · unfold upd
    split
    · rfl
    · next hne =>
      refine hf j hj ?_
      rw [Int32.lt_iff_toInt_lt, e] at hjl
      rw [Int32.lt_iff_toInt_lt]
      have : j.toInt ≠ i.toInt := fun q => hne (Int32.toInt_inj.mp q)
      omega
def nxt (i : Int32) : Int32 := (i + (1 : Int32)) &&& (127 : Int32)
theorem own_nxt (i : Int32) (h : InR i) : (nxt i).toInt = if i.toInt = 127 then 0 else i.toInt + 1 := by
  obtain ⟨h1, h2⟩ := h
  rw [Int32.lt_iff_toInt_lt] at h1 h2
  have h1' : ¬ i.toInt < 0 := h1
  have h2' : i.toInt < 128 := h2
  have e1 : (i + (1 : Int32)).toInt = i.toInt + 1 := by
    rw [Int32.toInt_add]; exact Int.bmod_eq_of_le (by show _ ≤ i.toInt + 1; omega) (by show i.toInt + 1 < _; omega)
  have e2 : ((i + (1 : Int32)).toBitVec.toNat : Int) = i.toInt + 1 := by
    have h3 : (i + (1 : Int32)).toBitVec.toInt = i.toInt + 1 := e1
    rw [BitVec.toInt_eq_toNat_cond] at h3
    split at h3 <;> omega
  have e3 : (nxt i).toBitVec.toNat = (i + (1 : Int32)).toBitVec.toNat % 128 := by
    show (((i + (1 : Int32)) &&& (127 : Int32)).toBitVec.toNat) = _
    simp only [Int32.toBitVec_and, BitVec.toNat_and]
    show (i + (1 : Int32)).toBitVec.toNat &&& 127 = _
    exact Nat.and_two_pow_sub_one_eq_mod _ 7
  have e4 : (nxt i).toInt = ((nxt i).toBitVec.toNat : Int) := BitVec.toInt_eq_toNat_of_lt (by omega)
  rw [e4, e3]
  split <;> omega
theorem own_probe_in (s : NSt) (k : Key) : ∀ (n : Nat) (i r : Int32), InR i → probe s k n i = some r → InR r := by
  intro n
  induction n with
  | zero => intro i r _ h; cases h
  | succ n ih =>
    intro i r hi h
    rw [probe] at h
    split at h
    · cases h; exact hi
    split at h
    · cases h; exact hi
    · exact ih _ _ (own_mask127 _) h
/-- which keys stand in it, at most in these places -/
def Inv (s : NSt) (n : Nat) (L : List Int32) (ks : List Key) : Prop := nS s = Int32.ofNat n ∧ n ≤ 4 ∧ L.length ≤ 3 ∧ ∀ i, InR i → slS s i = (-1 : Int32) ∨ (¬ slS s i < 0 ∧ slS s i < Int32.ofNat n ∧ i ∈ L ∧ rowS s (slS s i) ∈ ks)
theorem own_pigeon {a b c d : Int32} {L : List Int32} (hL : L.length ≤ 3) (h1 : a ∈ L) (h2 : b ∈ L) (h3 : c ∈ L) (h4 : d ∈ L) (n1 : a ≠ b) (n2 : a ≠ c) (n3 : a ≠ d) (n4 : b ≠ c) (n5 : b ≠ d) (n6 : c ≠ d) : False := by
  match L, hL with
  | [], _ => cases h1
  | [x], _ => simp only [List.mem_singleton] at h1 h2; exact n1 (h1.trans h2.symm)
  | [x, y], _ =>
    simp only [List.mem_cons, List.not_mem_nil, or_false] at h1 h2 h3
    rcases h1 with rfl | rfl <;> rcases h2 with rfl | rfl <;> rcases h3 with rfl | rfl <;> simp_all
  | [x, y, z], _ =>
    simp only [List.mem_cons, List.not_mem_nil, or_false] at h1 h2 h3 h4
    rcases h1 with rfl | rfl | rfl <;> rcases h2 with rfl | rfl | rfl <;> rcases h3 with rfl | rfl | rfl <;> rcases h4 with rfl | rfl | rfl <;> simp_all
theorem own_ne_of {a b : Int32} (h : a.toInt ≠ b.toInt) : a ≠ b := fun q => h (by rw [q])
theorem own_ends {s : NSt} {n : Nat} {L : List Int32} {ks : List Key} (I : Inv s n L ks) (k : Key) (i : Int32) (hi : InR i) : ∃ r, probe s k 8 i = some r := by
  have occ : ∀ y, InR y → ¬ slS s y = (-1 : Int32) → y ∈ L := fun y hy h => ((I.2.2.2 y hy).resolve_left h).2.2.1
  have stop : ∀ m y, (∃ r, probe s k (m + 1) y = some r) ∨ (¬ slS s y = (-1 : Int32) ∧ probe s k (m + 1) y = probe s k m (nxt y)) := by
    intro m y
    rw [probe]
    by_cases h1 : slS s y = (-1 : Int32)
    · left; rw [if_pos h1]; exact ⟨_, rfl⟩
    · by_cases h2 : rowS s (slS s y) = k
      · left; rw [if_neg h1, if_pos h2]; exact ⟨_, rfl⟩
      · right; rw [if_neg h1, if_neg h2]; exact ⟨h1, rfl⟩
  have j1 : InR (nxt i) := own_mask127 _
  have j2 : InR (nxt (nxt i)) := own_mask127 _
  have j3 : InR (nxt (nxt (nxt i))) := own_mask127 _
  rcases stop 7 i with h | ⟨o0, h0⟩
  · exact h
  rw [h0]
  rcases stop 6 (nxt i) with h | ⟨o1, h1⟩
  · exact h
  rw [h1]
  rcases stop 5 (nxt (nxt i)) with h | ⟨o2, h2⟩
  · exact h
  rw [h2]
  rcases stop 4 (nxt (nxt (nxt i))) with h | ⟨o3, h3⟩
  · exact h
  exfalso
  have e1 := own_nxt i hi
  have e2 := own_nxt _ j1
  have e3 := own_nxt _ j2
  obtain ⟨a1, a2⟩ := hi
  rw [Int32.lt_iff_toInt_lt] at a1 a2
  have a1' : ¬ i.toInt < 0 := a1
  have a2' : i.toInt < 128 := a2
  refine own_pigeon I.2.2.1 (occ _ ⟨by rw [Int32.lt_iff_toInt_lt]; exact a1, by rw [Int32.lt_iff_toInt_lt]; exact a2⟩ o0) (occ _ j1 o1) (occ _ j2 o2) (occ _ j3 o3) ?_ ?_ ?_ ?_ ?_ ?_ <;> apply own_ne_of <;> (repeat' split at e1) <;> (repeat' split at e2) <;> (repeat' split at e3) <;> omega
theorem own_found {s : NSt} {n : Nat} {L : List Int32} {ks : List Key} (I : Inv s n L ks) (a b c d e : Int32) : Found s a b c d e := by
  obtain ⟨r, hr⟩ := own_ends I (a, b, c, d, e) (startV a b c d e) (own_mask127 _)
  unfold Found slotV
  rw [hr]; rfl
theorem own_n4 {n : Nat} (h : n ≤ 4) : (Int32.ofNat n).toInt = n := by
  match n, h with
  | 0, _ => rfl
  | 1, _ => rfl
  | 2, _ => rfl
  | 3, _ => rfl
  | 4, _ => rfl
theorem own_ready {s : NSt} {n : Nat} {L : List Int32} {ks : List Key} (I : Inv s n L ks) (a b c d e : Int32) : Ready s a b c d e := by
  have F := own_found I a b c d e
  have hn := own_n4 I.2.1
  have h4 := I.2.1
  refine ⟨fun i hi => ?_, F, ?_, own_probe_in s _ _ _ _ (own_mask127 _) F⟩
  · rcases I.2.2.2 i hi with h | ⟨h1, h2, -⟩
    · exact Or.inl h
    · refine Or.inr ⟨h1, ?_⟩
      rw [Int32.lt_iff_toInt_lt, hn] at h2
      rw [Int32.lt_iff_toInt_lt]
      show _ < (64 : Int)
      omega
  · rw [I.1, Int32.lt_iff_toInt_lt, Int32.lt_iff_toInt_lt, hn]
    show ¬ ((n : Int) < 0) ∧ (n : Int) < 16
    omega
/-- a key that isn't there -/
theorem own_lacks {s : NSt} {n : Nat} {L : List Int32} {ks : List Key} (I : Inv s n L ks) {a b c d e : Int32} (hk : (a, b, c, d, e) ∉ ks) : findV s a b c d e = (-1 : Int32) := by
  have F := own_found I a b c d e
  have R : ∀ (m : Nat) (i r : Int32), InR i → probe s (a, b, c, d, e) m i = some r → slS s r = (-1 : Int32) := by
    intro m
    induction m with
    | zero => intro i r _ h; cases h
    | succ m ih =>
      intro i r hi h
      rw [probe] at h
      by_cases h1 : slS s i = (-1 : Int32)
      · rw [if_pos h1] at h; cases h; exact h1
      rw [if_neg h1] at h
      by_cases h2 : rowS s (slS s i) = (a, b, c, d, e)
      · exact absurd (h2 ▸ ((I.2.2.2 i hi).resolve_left h1).2.2.2) hk
      rw [if_neg h2] at h
      exact ih _ _ (own_mask127 _) h
  exact R _ _ _ (own_mask127 _) F
/-- a key that is there, as the entry j -/
def HasK (s : NSt) (j : Int32) (a b c d e : Int32) : Prop := Found s a b c d e ∧ findV s a b c d e = j ∧ ¬ j = (-1 : Int32)
theorem own_add_new {s : NSt} {a b c d e : Int32} (h : findV s a b c d e = (-1 : Int32)) : addV s a b c d e = nS s ∧ addS s a b c d e = (nS s + 1, upd (cpS s) (nS s) a, upd (frS s) (nS s) b, upd (loS s) (nS s) c, upd (eqS s) (nS s) d, upd (hiS s) (nS s) e, upd (slS s) (slotV s a b c d e) (nS s)) := by
  unfold addV addS
  rw [if_pos h, if_pos h]; exact ⟨rfl, rfl⟩
theorem own_add_old {s : NSt} {a b c d e : Int32} (h : ¬ findV s a b c d e = (-1 : Int32)) : addV s a b c d e = findV s a b c d e ∧ addS s a b c d e = s := by
  unfold addV addS
  rw [if_neg h, if_neg h]; exact ⟨rfl, rfl⟩
theorem own_row_old {s : NSt} {a b c d e : Int32} (h : findV s a b c d e = (-1 : Int32)) {j : Int32} (hj : j ≠ nS s) : rowS (addS s a b c d e) j = rowS s j := by
  rw [(own_add_new h).2]
  simp only [rowS, cpS, frS, loS, eqS, hiS, upd, if_neg hj]
theorem own_row_new {s : NSt} {a b c d e : Int32} (h : findV s a b c d e = (-1 : Int32)) : rowS (addS s a b c d e) (nS s) = (a, b, c, d, e) := by
  rw [(own_add_new h).2]
  simp only [rowS, cpS, frS, loS, eqS, hiS, upd, if_pos]
theorem own_sl_new {s : NSt} {a b c d e : Int32} (h : findV s a b c d e = (-1 : Int32)) (i : Int32) : slS (addS s a b c d e) i = if i = slotV s a b c d e then nS s else slS s i := by
  rw [(own_add_new h).2]; rfl
theorem own_nneg {s : NSt} {n : Nat} {L : List Int32} {ks : List Key} (I : Inv s n L ks) : ¬ nS s = (-1 : Int32) := fun q => by
  have h := congrArg Int32.toInt q
  rw [I.1, own_n4 I.2.1] at h
  have : ((-1 : Int32)).toInt = -1 := rfl
  omega
theorem own_inv_add {s : NSt} {n : Nat} {L : List Int32} {ks : List Key} (I : Inv s n L ks) {a b c d e : Int32} (h : findV s a b c d e = (-1 : Int32)) (hn : n + 1 ≤ 4) (hL : L.length + 1 ≤ 3) : Inv (addS s a b c d e) (n + 1) (slotV s a b c d e :: L) ((a, b, c, d, e) :: ks) := by
  have h4 := own_n4 I.2.1
  have h5 := own_n4 hn
  refine ⟨?_, hn, hL, fun i hi => ?_⟩
  · rw [(own_add_new h).2]
    show nS s + 1 = _
    rw [I.1]
    apply Int32.toInt_inj.mp
    rw [Int32.toInt_add, h4, h5]
    exact (Int.bmod_eq_of_le (by show _ ≤ (n : Int) + 1; omega) (by show (n : Int) + 1 < _; omega)).trans (by show (n : Int) + 1 = _; omega)
  · rw [own_sl_new h]
    by_cases hs : i = slotV s a b c d e
    · rw [if_pos hs, own_row_new h]
      right
      refine ⟨?_, ?_, by rw [hs]; exact List.mem_cons_self, List.mem_cons_self⟩
      · rw [I.1, Int32.lt_iff_toInt_lt, h4]; show ¬ ((n : Int) < 0); omega
      · rw [I.1, Int32.lt_iff_toInt_lt, h4, h5]; omega
    · rw [if_neg hs]
      rcases I.2.2.2 i hi with q | ⟨q1, q2, q3, q4⟩
      · exact Or.inl q
      · right
        have hne : slS s i ≠ nS s := fun z => by
          rw [z, I.1] at q2
          rw [Int32.lt_iff_toInt_lt] at q2
          omega
        rw [own_row_old h hne]
        refine ⟨q1, ?_, List.mem_cons_of_mem _ q3, List.mem_cons_of_mem _ q4⟩
        rw [Int32.lt_iff_toInt_lt, h4] at q2
        rw [Int32.lt_iff_toInt_lt, h5]; omega
theorem own_has_new {s : NSt} {n : Nat} {L : List Int32} {ks : List Key} (I : Inv s n L ks) {a b c d e : Int32} (h : findV s a b c d e = (-1 : Int32)) : HasK (addS s a b c d e) (nS s) a b c d e := by
  have F := own_found I a b c d e
  have R : ∀ (m : Nat) (i : Int32), InR i → probe s (a, b, c, d, e) m i = some (slotV s a b c d e) → probe (addS s a b c d e) (a, b, c, d, e) m i = some (slotV s a b c d e) := by
    intro m
    induction m with
    | zero => intro i _ h; cases h
    | succ m ih =>
      intro i hi hp
      rw [probe] at hp ⊢
      rw [own_sl_new h]
      by_cases hs : i = slotV s a b c d e
      · rw [if_pos hs, if_neg (own_nneg I), if_pos (own_row_new h), hs]
      · rw [if_neg hs]
        by_cases h1 : slS s i = (-1 : Int32)
        · rw [if_pos h1] at hp; exact absurd (Option.some.inj hp) hs
        rw [if_neg h1] at hp ⊢
        have q := (I.2.2.2 i hi).resolve_left h1
        have hne : slS s i ≠ nS s := fun z => by
          have q2 := q.2.1
          rw [z, I.1, Int32.lt_iff_toInt_lt] at q2
          omega
        rw [own_row_old h hne]
        by_cases h2 : rowS s (slS s i) = (a, b, c, d, e)
        · rw [if_pos h2] at hp; exact absurd (Option.some.inj hp) hs
        rw [if_neg h2] at hp ⊢
        exact ih _ (own_mask127 _) hp
  have P := R _ (startV a b c d e) (own_mask127 _) F
  have e1 : slotV (addS s a b c d e) a b c d e = slotV s a b c d e := by
    show (probe (addS s a b c d e) (a, b, c, d, e) 8 (startV a b c d e)).getD 0 = _
    rw [P]; rfl
  refine ⟨?_, ?_, own_nneg I⟩
  · unfold Found; rw [e1]; exact P
  · unfold findV; rw [e1, own_sl_new h, if_pos rfl]
theorem own_has_old {s : NSt} {n : Nat} {L : List Int32} {ks : List Key} (I : Inv s n L ks) {a b c d e : Int32} (h : findV s a b c d e = (-1 : Int32)) {j a' b' c' d' e' : Int32} (H : HasK s j a' b' c' d' e') : HasK (addS s a b c d e) j a' b' c' d' e' := by
  obtain ⟨F, hf, hj⟩ := H
  have hx : slS s (slotV s a' b' c' d' e') = j := hf
  have hne0 : slotV s a' b' c' d' e' ≠ slotV s a b c d e := fun q => by
    rw [q] at hx
    exact hj (hx.symm.trans h)
  have R : ∀ (m : Nat) (i : Int32), InR i → probe s (a', b', c', d', e') m i = some (slotV s a' b' c' d' e') → probe (addS s a b c d e) (a', b', c', d', e') m i = some (slotV s a' b' c' d' e') := by
    intro m
    induction m with
    | zero => intro i _ h; cases h
    | succ m ih =>
      intro i hi hp
      rw [probe] at hp ⊢
      rw [own_sl_new h]
      by_cases h1 : slS s i = (-1 : Int32)
      · rw [if_pos h1] at hp
        have := Option.some.inj hp
        rw [this] at h1
        exact absurd (hx.symm.trans h1) hj
      rw [if_neg h1] at hp
      have hs : ¬ i = slotV s a b c d e := fun q => by rw [q] at h1; exact h1 h
      rw [if_neg hs, if_neg h1]
      have q := (I.2.2.2 i hi).resolve_left h1
      have hne : slS s i ≠ nS s := fun z => by
        have q2 := q.2.1
        rw [z, I.1, Int32.lt_iff_toInt_lt] at q2
        omega
      rw [own_row_old h hne]
      by_cases h2 : rowS s (slS s i) = (a', b', c', d', e')
      · rw [if_pos h2] at hp ⊢; exact hp
      rw [if_neg h2] at hp ⊢
      exact ih _ (own_mask127 _) hp
  have P := R _ (startV a' b' c' d' e') (own_mask127 _) F
  have e1 : slotV (addS s a b c d e) a' b' c' d' e' = slotV s a' b' c' d' e' := by
    show (probe (addS s a b c d e) (a', b', c', d', e') 8 (startV a' b' c' d' e')).getD 0 = _
    rw [P]; rfl
  refine ⟨?_, ?_, hj⟩
  · unfold Found; rw [e1]; exact P
  · unfold findV; rw [e1, own_sl_new h, if_neg hne0]; exact hx
theorem own_inv0 : Inv emptyS 0 [] [] := ⟨rfl, by decide, by decide, fun i _ => Or.inl rfl⟩
theorem own_first (a b c d e : Int32) : addV emptyS a b c d e = 0 ∧ Inv (addS emptyS a b c d e) 1 [slotV emptyS a b c d e] [(a, b, c, d, e)] ∧ HasK (addS emptyS a b c d e) 0 a b c d e := by
  have h := own_lacks own_inv0 (a := a) (b := b) (c := c) (d := d) (e := e) (fun q => nomatch q)
  exact ⟨(own_add_new h).1, own_inv_add own_inv0 h (by decide) (by decide), own_has_new own_inv0 h⟩
theorem own_hit {s : NSt} {j a b c d e : Int32} (H : HasK s j a b c d e) : addV s a b c d e = j ∧ addS s a b c d e = s ∧ findV s a b c d e = j := by
  have h : ¬ findV s a b c d e = (-1 : Int32) := by rw [H.2.1]; exact H.2.2
  exact ⟨(own_add_old h).1.trans H.2.1, (own_add_old h).2, H.2.1⟩
theorem own_j2_same (a1 b1 c1 d1 e1 : Int32) : Ready emptyS a1 b1 c1 d1 e1 ∧ Ready (addS emptyS a1 b1 c1 d1 e1) a1 b1 c1 d1 e1 ∧ Ready (addS (addS emptyS a1 b1 c1 d1 e1) a1 b1 c1 d1 e1) a1 b1 c1 d1 e1 ∧ Ready (addS (addS (addS emptyS a1 b1 c1 d1 e1) a1 b1 c1 d1 e1) a1 b1 c1 d1 e1) a1 b1 c1 d1 e1 ∧ Ready (addS (addS (addS (addS emptyS a1 b1 c1 d1 e1) a1 b1 c1 d1 e1) a1 b1 c1 d1 e1) a1 b1 c1 d1 e1) a1 b1 c1 d1 e1 ∧ Ready (addS (addS (addS (addS emptyS a1 b1 c1 d1 e1) a1 b1 c1 d1 e1) a1 b1 c1 d1 e1) a1 b1 c1 d1 e1) a1 b1 c1 d1 e1 ∧ Ready (addS (addS (addS (addS emptyS a1 b1 c1 d1 e1) a1 b1 c1 d1 e1) a1 b1 c1 d1 e1) a1 b1 c1 d1 e1) a1 b1 c1 d1 e1 ∧ addV emptyS a1 b1 c1 d1 e1 = 0 ∧ addV (addS emptyS a1 b1 c1 d1 e1) a1 b1 c1 d1 e1 = 0 ∧ findV (addS (addS emptyS a1 b1 c1 d1 e1) a1 b1 c1 d1 e1) a1 b1 c1 d1 e1 = 0 ∧ addV (addS (addS emptyS a1 b1 c1 d1 e1) a1 b1 c1 d1 e1) a1 b1 c1 d1 e1 = 0 ∧ addV (addS (addS (addS emptyS a1 b1 c1 d1 e1) a1 b1 c1 d1 e1) a1 b1 c1 d1 e1) a1 b1 c1 d1 e1 = 0 ∧ findV (addS (addS (addS (addS emptyS a1 b1 c1 d1 e1) a1 b1 c1 d1 e1) a1 b1 c1 d1 e1) a1 b1 c1 d1 e1) a1 b1 c1 d1 e1 = 0 ∧ findV (addS (addS (addS (addS emptyS a1 b1 c1 d1 e1) a1 b1 c1 d1 e1) a1 b1 c1 d1 e1) a1 b1 c1 d1 e1) a1 b1 c1 d1 e1 = 0 ∧ findV (addS (addS (addS (addS emptyS a1 b1 c1 d1 e1) a1 b1 c1 d1 e1) a1 b1 c1 d1 e1) a1 b1 c1 d1 e1) a1 b1 c1 d1 e1 = 0 := by
  obtain ⟨v1, I1, H1⟩ := own_first a1 b1 c1 d1 e1
  obtain ⟨u1, u2, u3⟩ := own_hit H1
  rw [u2, u2, u2]
  exact ⟨own_ready own_inv0 _ _ _ _ _, own_ready I1 _ _ _ _ _, own_ready I1 _ _ _ _ _, own_ready I1 _ _ _ _ _, own_ready I1 _ _ _ _ _, own_ready I1 _ _ _ _ _, own_ready I1 _ _ _ _ _, v1, u1, u3, u1, u1, u3, u3, u3⟩
theorem own_j2_diff (a1 b1 c1 d1 e1 a2 b2 c2 d2 e2 a3 b3 c3 d3 e3 : Int32) (n12 : (a1, b1, c1, d1, e1) ≠ (a2, b2, c2, d2, e2)) (n13 : (a1, b1, c1, d1, e1) ≠ (a3, b3, c3, d3, e3)) (n23 : (a2, b2, c2, d2, e2) ≠ (a3, b3, c3, d3, e3)) : Ready emptyS a1 b1 c1 d1 e1 ∧ Ready (addS emptyS a1 b1 c1 d1 e1) a2 b2 c2 d2 e2 ∧ Ready (addS (addS emptyS a1 b1 c1 d1 e1) a2 b2 c2 d2 e2) a3 b3 c3 d3 e3 ∧ Ready (addS (addS (addS emptyS a1 b1 c1 d1 e1) a2 b2 c2 d2 e2) a3 b3 c3 d3 e3) a1 b1 c1 d1 e1 ∧ Ready (addS (addS (addS (addS emptyS a1 b1 c1 d1 e1) a2 b2 c2 d2 e2) a3 b3 c3 d3 e3) a1 b1 c1 d1 e1) a1 b1 c1 d1 e1 ∧ Ready (addS (addS (addS (addS emptyS a1 b1 c1 d1 e1) a2 b2 c2 d2 e2) a3 b3 c3 d3 e3) a1 b1 c1 d1 e1) a2 b2 c2 d2 e2 ∧ Ready (addS (addS (addS (addS emptyS a1 b1 c1 d1 e1) a2 b2 c2 d2 e2) a3 b3 c3 d3 e3) a1 b1 c1 d1 e1) a3 b3 c3 d3 e3 ∧ addV emptyS a1 b1 c1 d1 e1 = 0 ∧ addV (addS emptyS a1 b1 c1 d1 e1) a2 b2 c2 d2 e2 = 1 ∧ findV (addS (addS emptyS a1 b1 c1 d1 e1) a2 b2 c2 d2 e2) a3 b3 c3 d3 e3 = (-1) ∧ addV (addS (addS emptyS a1 b1 c1 d1 e1) a2 b2 c2 d2 e2) a3 b3 c3 d3 e3 = 2 ∧ addV (addS (addS (addS emptyS a1 b1 c1 d1 e1) a2 b2 c2 d2 e2) a3 b3 c3 d3 e3) a1 b1 c1 d1 e1 = 0 ∧ findV (addS (addS (addS (addS emptyS a1 b1 c1 d1 e1) a2 b2 c2 d2 e2) a3 b3 c3 d3 e3) a1 b1 c1 d1 e1) a1 b1 c1 d1 e1 = 0 ∧ findV (addS (addS (addS (addS emptyS a1 b1 c1 d1 e1) a2 b2 c2 d2 e2) a3 b3 c3 d3 e3) a1 b1 c1 d1 e1) a2 b2 c2 d2 e2 = 1 ∧ findV (addS (addS (addS (addS emptyS a1 b1 c1 d1 e1) a2 b2 c2 d2 e2) a3 b3 c3 d3 e3) a1 b1 c1 d1 e1) a3 b3 c3 d3 e3 = 2 := by
  obtain ⟨v1, I1, H1⟩ := own_first a1 b1 c1 d1 e1
  have l2 := own_lacks I1 (a := a2) (b := b2) (c := c2) (d := d2) (e := e2) (fun q => n12 (List.mem_singleton.mp q).symm)
  have I2 := own_inv_add I1 l2 (by decide) (by show 2 ≤ 3; decide)
  have H21 := own_has_old I1 l2 H1
  have H22 := own_has_new I1 l2
  rw [I1.1] at H22
  have l3 := own_lacks I2 (a := a3) (b := b3) (c := c3) (d := d3) (e := e3) (fun q => by
    rcases List.mem_cons.mp q with q | q
    · exact n23 q.symm
    · exact n13 (List.mem_singleton.mp q).symm)
  have I3 := own_inv_add I2 l3 (by decide) (by show 3 ≤ 3; decide)
  have H31 := own_has_old I2 l3 H21
  have H32 := own_has_old I2 l3 H22
  have H33 := own_has_new I2 l3
  rw [I2.1] at H33
  obtain ⟨u1, u2, u3⟩ := own_hit H31
  rw [u2]
  exact ⟨own_ready own_inv0 _ _ _ _ _, own_ready I1 _ _ _ _ _, own_ready I2 _ _ _ _ _, own_ready I3 _ _ _ _ _, own_ready I3 _ _ _ _ _, own_ready I3 _ _ _ _ _, own_ready I3 _ _ _ _ _, v1, (own_add_new l2).1.trans I1.1, l3, (own_add_new l3).1.trans I2.1, u1, u3, (own_hit H32).2.2, (own_hit H33).2.2⟩
theorem own_sar3 (p : Int32) : -268435456 ≤ (p >>> ((3 : Int32) &&& 31)).toInt ∧ (p >>> ((3 : Int32) &&& 31)).toInt < 268435456 := by
  have h1 := p.toInt_lt; have h2 := p.le_toInt
  have e : (p >>> ((3 : Int32) &&& 31)).toInt = p.toInt >>> 3 := by
    show (BitVec.sshiftRight p.toBitVec 3).toInt = _
    rw [BitVec.toInt_sshiftRight]; rfl
  rw [e, Int.shiftRight_eq_div_pow]
  show _ ≤ p.toInt / 8 ∧ p.toInt / 8 < _
  omega
theorem own_upd_eq (f : Int32 → Int32) (k v : Int32) : upd f k v k = v := if_pos rfl
theorem own_add_ne {x d : Int32} (h : x = x + d) : d = 0 := by
  have h' := congrArg Int32.toInt h
  rw [Int32.toInt_add] at h'
  apply Int32.toInt_inj.mp
  have a1 := x.toInt_lt; have a2 := x.le_toInt; have b1 := d.toInt_lt; have b2 := d.le_toInt
  show d.toInt = 0
  rw [Int.bmod_def] at h'
  split at h' <;> omega
theorem own_sub_ne {x d : Int32} (h : x = x - d) : d = 0 := by
  have h' := congrArg Int32.toInt h
  rw [Int32.toInt_sub] at h'
  apply Int32.toInt_inj.mp
  have a1 := x.toInt_lt; have a2 := x.le_toInt; have b1 := d.toInt_lt; have b2 := d.le_toInt
  show d.toInt = 0
  rw [Int.bmod_def] at h'
  split at h' <;> omega
theorem own_as_ne {x d : Int32} (hd : -268435456 ≤ d.toInt ∧ d.toInt < 268435456) (h : x + d = x - d) : d = 0 := by
  have h' := congrArg Int32.toInt h
  rw [Int32.toInt_sub, Int32.toInt_add] at h'
  apply Int32.toInt_inj.mp
  have a1 := x.toInt_lt; have a2 := x.le_toInt
  show d.toInt = 0
  rw [Int.bmod_def, Int.bmod_def] at h'
  split at h' <;> split at h' <;> omega
def keyF (f : Int32 → Int32) : Key := (f (0 : Int32), f (1 : Int32), f (2 : Int32), f (3 : Int32), f (4 : Int32))
theorem own_key_at {f g : Int32 → Int32} {k : Int32} (h : keyF f = keyF g) (hk : ¬ k < 0 ∧ k < (5 : Int32)) : f k = g k := by
  simp only [keyF, Prod.mk.injEq] at h
  obtain ⟨h0, h1, h2, h3, h4⟩ := h
  have hc : k = 0 ∨ k = 1 ∨ k = 2 ∨ k = 3 ∨ k = 4 := by
    obtain ⟨q1, q2⟩ := hk
    rw [Int32.lt_iff_toInt_lt] at q1 q2
    simp only [← Int32.toInt_inj, show (0 : Int32).toInt = 0 from rfl, show (1 : Int32).toInt = 1 from rfl, show (2 : Int32).toInt = 2 from rfl, show (3 : Int32).toInt = 3 from rfl, show (4 : Int32).toInt = 4 from rfl, show (5 : Int32).toInt = 5 from rfl] at *
    omega
  rcases hc with rfl | rfl | rfl | rfl | rfl <;> assumption
theorem own_upd_same {f : Int32 → Int32} {k v : Int32} (h : v = f k) : upd f k v = f := by
  funext i
  unfold upd
  split
  · next q => rw [q]; exact h
  · rfl
theorem own_kx (p : Int32) : ¬ ((p &&& (7 : Int32)) - ((p &&& (7 : Int32)) / (5 : Int32)) * (5 : Int32)) < 0 ∧ ((p &&& (7 : Int32)) - ((p &&& (7 : Int32)) / (5 : Int32)) * (5 : Int32)) < (5 : Int32) := by
  have h0 : 0 ≤ (p &&& (7 : Int32)).toInt := by
    have h : (p &&& (7 : Int32)).toBitVec.toNat ≤ 7 := by
      simp only [Int32.toBitVec_and, BitVec.toNat_and]
      exact Nat.and_le_right
    have e : (p &&& (7 : Int32)).toInt = ((p &&& (7 : Int32)).toBitVec.toNat : Int) := BitVec.toInt_eq_toNat_of_lt (by omega)
    omega
  have h1 := own_rem (p &&& (7 : Int32)) 5 h0 (by decide)
  rw [Int32.lt_iff_toInt_lt, Int32.lt_iff_toInt_lt, h1, show (5 : Int32).toInt = 5 from rfl, show (0 : Int32).toInt = 0 from rfl]
  omega
theorem own_j2 (f1 f2 f3 : Int32 → Int32) (kx dl : Int32) (s1 s2 s3 s4 : NSt) (hs1 : s1 = addS emptyS (f1 (0 : Int32)) (f1 (1 : Int32)) (f1 (2 : Int32)) (f1 (3 : Int32)) (f1 (4 : Int32))) (hs2 : s2 = addS s1 (f2 (0 : Int32)) (f2 (1 : Int32)) (f2 (2 : Int32)) (f2 (3 : Int32)) (f2 (4 : Int32))) (hs3 : s3 = addS s2 (f3 (0 : Int32)) (f3 (1 : Int32)) (f3 (2 : Int32)) (f3 (3 : Int32)) (f3 (4 : Int32))) (hs4 : s4 = addS s3 (f1 (0 : Int32)) (f1 (1 : Int32)) (f1 (2 : Int32)) (f1 (3 : Int32)) (f1 (4 : Int32))) (hk : ¬ kx < 0 ∧ kx < (5 : Int32)) (hd : -268435456 ≤ dl.toInt ∧ dl.toInt < 268435456) (h2 : f2 = upd f1 kx ((f1 kx) + dl)) (h3 : f3 = upd f1 kx ((f1 kx) - dl)) : Ready emptyS (f1 (0 : Int32)) (f1 (1 : Int32)) (f1 (2 : Int32)) (f1 (3 : Int32)) (f1 (4 : Int32)) ∧ Ready s1 (f2 (0 : Int32)) (f2 (1 : Int32)) (f2 (2 : Int32)) (f2 (3 : Int32)) (f2 (4 : Int32)) ∧ Ready s2 (f3 (0 : Int32)) (f3 (1 : Int32)) (f3 (2 : Int32)) (f3 (3 : Int32)) (f3 (4 : Int32)) ∧ Ready s3 (f1 (0 : Int32)) (f1 (1 : Int32)) (f1 (2 : Int32)) (f1 (3 : Int32)) (f1 (4 : Int32)) ∧ Ready s4 (f1 (0 : Int32)) (f1 (1 : Int32)) (f1 (2 : Int32)) (f1 (3 : Int32)) (f1 (4 : Int32)) ∧ Ready s4 (f2 (0 : Int32)) (f2 (1 : Int32)) (f2 (2 : Int32)) (f2 (3 : Int32)) (f2 (4 : Int32)) ∧ Ready s4 (f3 (0 : Int32)) (f3 (1 : Int32)) (f3 (2 : Int32)) (f3 (3 : Int32)) (f3 (4 : Int32)) ∧ addV emptyS (f1 (0 : Int32)) (f1 (1 : Int32)) (f1 (2 : Int32)) (f1 (3 : Int32)) (f1 (4 : Int32)) = 0 ∧ addV s1 (f2 (0 : Int32)) (f2 (1 : Int32)) (f2 (2 : Int32)) (f2 (3 : Int32)) (f2 (4 : Int32)) = (if dl = 0 then 0 else 1) ∧ findV s2 (f3 (0 : Int32)) (f3 (1 : Int32)) (f3 (2 : Int32)) (f3 (3 : Int32)) (f3 (4 : Int32)) = (if dl = 0 then 0 else (-1)) ∧ addV s2 (f3 (0 : Int32)) (f3 (1 : Int32)) (f3 (2 : Int32)) (f3 (3 : Int32)) (f3 (4 : Int32)) = (if dl = 0 then 0 else 2) ∧ addV s3 (f1 (0 : Int32)) (f1 (1 : Int32)) (f1 (2 : Int32)) (f1 (3 : Int32)) (f1 (4 : Int32)) = 0 ∧ findV s4 (f1 (0 : Int32)) (f1 (1 : Int32)) (f1 (2 : Int32)) (f1 (3 : Int32)) (f1 (4 : Int32)) = 0 ∧ findV s4 (f2 (0 : Int32)) (f2 (1 : Int32)) (f2 (2 : Int32)) (f2 (3 : Int32)) (f2 (4 : Int32)) = (if dl = 0 then 0 else 1) ∧ findV s4 (f3 (0 : Int32)) (f3 (1 : Int32)) (f3 (2 : Int32)) (f3 (3 : Int32)) (f3 (4 : Int32)) = (if dl = 0 then 0 else 2) := by
  subst hs4 hs3 hs2 hs1
  by_cases hz : dl = 0
  · have e2 : f2 = f1 := by rw [h2]; exact own_upd_same (by rw [hz]; exact Int32.add_zero _)
    have e3 : f3 = f1 := by rw [h3]; exact own_upd_same (by rw [hz]; exact Int32.sub_zero _)
    rw [e2, e3]
    obtain ⟨r1, r2, r3, r4, r5, r6, r7, v1, v2, v3, v4, v5, v6, v7, v8⟩ := own_j2_same (f1 (0 : Int32)) (f1 (1 : Int32)) (f1 (2 : Int32)) (f1 (3 : Int32)) (f1 (4 : Int32))
    exact ⟨r1, r2, r3, r4, r5, r6, r7, v1, v2.trans (if_pos hz).symm, v3.trans (if_pos hz).symm, v4.trans (if_pos hz).symm, v5, v6, v7.trans (if_pos hz).symm, v8.trans (if_pos hz).symm⟩
  · obtain ⟨r1, r2, r3, r4, r5, r6, r7, v1, v2, v3, v4, v5, v6, v7, v8⟩ := own_j2_diff (f1 (0 : Int32)) (f1 (1 : Int32)) (f1 (2 : Int32)) (f1 (3 : Int32)) (f1 (4 : Int32)) (f2 (0 : Int32)) (f2 (1 : Int32)) (f2 (2 : Int32)) (f2 (3 : Int32)) (f2 (4 : Int32)) (f3 (0 : Int32)) (f3 (1 : Int32)) (f3 (2 : Int32)) (f3 (3 : Int32)) (f3 (4 : Int32)) (fun q => by
      have := own_key_at (f := f1) (g := f2) q hk
      rw [h2, own_upd_eq] at this
      exact hz (own_add_ne this)) (fun q => by
      have := own_key_at (f := f1) (g := f3) q hk
      rw [h3, own_upd_eq] at this
      exact hz (own_sub_ne this)) (fun q => by
      have := own_key_at (f := f2) (g := f3) q hk
      rw [h2, h3, own_upd_eq, own_upd_eq] at this
      exact hz (own_as_ne hd this))
    exact ⟨r1, r2, r3, r4, r5, r6, r7, v1, v2.trans (if_neg hz).symm, v3.trans (if_neg hz).symm, v4.trans (if_neg hz).symm, v5, v6, v7.trans (if_neg hz).symm, v8.trans (if_neg hz).symm⟩
theorem own_ifs (d v : Int32) : (if d = (0 : Int32) then (0 : Int32) else v) = (if (if d = (0 : Int32) then (1 : Int32) else 0) = (0 : Int32) then v else 0) := by
  by_cases h : d = (0 : Int32)
  · rw [if_pos h, if_pos h, if_neg (by decide)]
  · rw [if_neg h, if_neg h, if_pos rfl]
theorem dFI_0 : decode jdk_65_method_103_code 0 = .ok (.iconst 0, 1) := by decide +kernel
theorem dFI_1 : decode jdk_65_method_103_code 1 = .ok (.istore_n 2, 1) := by decide +kernel
theorem dFI_2 : decode jdk_65_method_103_code 2 = .ok (.aload_n 0, 1) := by decide +kernel
theorem dFI_3 : decode jdk_65_method_103_code 3 = .ok (.arraylength, 1) := by decide +kernel
theorem dFI_4 : decode jdk_65_method_103_code 4 = .ok (.istore_n 3, 1) := by decide +kernel
theorem dFI_5 : decode jdk_65_method_103_code 5 = .ok (.iload_n 2, 1) := by decide +kernel
theorem dFI_6 : decode jdk_65_method_103_code 6 = .ok (.iload_n 3, 1) := by decide +kernel
theorem dFI_7 : decode jdk_65_method_103_code 7 = .ok (.if_icmp .ge 13, 3) := by decide +kernel
theorem dFI_10 : decode jdk_65_method_103_code 10 = .ok (.aload_n 0, 1) := by decide +kernel
theorem dFI_11 : decode jdk_65_method_103_code 11 = .ok (.iload_n 2, 1) := by decide +kernel
theorem dFI_12 : decode jdk_65_method_103_code 12 = .ok (.iload_n 1, 1) := by decide +kernel
theorem dFI_13 : decode jdk_65_method_103_code 13 = .ok (.iastore, 1) := by decide +kernel
theorem dFI_14 : decode jdk_65_method_103_code 14 = .ok (.iinc 2 1, 3) := by decide +kernel
theorem dFI_17 : decode jdk_65_method_103_code 17 = .ok (.goto (-12), 3) := by decide +kernel
theorem dFI_20 : decode jdk_65_method_103_code 20 = .ok (.return_, 1) := by decide +kernel
theorem pn_0 : plainName "java/util/Arrays" = true := by first | (simp [plainName, overriddenIn]; done) | decide +kernel
theorem ef_FI (m : MethodId) (o0 : Addr) (p1 : Int32) : entryFrame m #[(.ref o0), (.int p1)] 4 = mkF m 0 #[.val (.ref o0), .val (.int p1), .unset, .unset] [] := by first | (simp [entryFrame, mkF, argsToLocals, Value.category]; done) | rfl
def QFI (Z : State) (o0 : Addr) (p1 len : Int32) (h0 : Heap) (n0 : Nat) (v : Option Value) (h : Heap) (L : List Loc) : Prop := v = none ∧ Fr n0 L ∧ Keep h0 h [o0] ∧ ArF Z h o0 len (fun _ => p1)
set_option maxRecDepth 65536 in
set_option maxHeartbeats 40000000 in
theorem rmFI (l : Launch) (Z : State) (a0 : Array Value) (hw : ∀ d ∈ tables_1, d.before a0 Z = true) (ws : List Jvm.Cond) (o0 : Addr) (p1 len : Int32) (f : Int32 → Int32) (h0 : Heap) (n0 : Nat) (Z0 : n0 ≤ h0.size) (A_o0 : ArF Z h0 o0 len f) (g_o0 : n0 ≤ o0) (hlen : ¬ len < 0) :
    MetFree l (⟨"java/util/Arrays", "fill", "([II)V"⟩ : MethodName) (head1 (Jvm.Cond.code (⟨"java/util/Arrays", "fill", "([II)V"⟩ : MethodName) jdk_65_method_103_code 4 none :: ws) ({ frames := 0, cells := 0, slots := 0, locals := 0 } : Room)) (fun a U => a = #[(.ref o0), (.int p1)] ∧ Z.Warmed39 U.vm ∧ U.heap = h0) (fun _ _ _ _ _ => True) (fun _ U o U' => ∃ v L, o = .returned v ∧ QFI Z o0 p1 len h0 n0 v U'.heap L ∧ FrameEnd U o U' L ({ frames := 0, cells := 0, slots := 0, locals := 0 } : Room).cells ({ frames := 0, cells := 0, slots := 0, locals := 0 } : Room).slots) := by
  refine MetFree.of_bodySF (plainFor_of_name pn_0) hisR ?_
  intro p e s m args below meth c s₁ Bd hml0 hP hK
  obtain ⟨rfl, hZ, hh⟩ := hP
  have hx := Bd.exec
  have hby := Bd.bytes
  have hml : c.maxLocals = 4 := hml0
  have hown : s.vm.findClass "java/util/Arrays" = some m.cls := findClass_of_methodNamed Bd.named
  have hnm := (name_of_methodNamed Bd.named Bd.method).1
  have X0 : Stand p l e ({ frames := 0, cells := 0, slots := 0, locals := 0 } : Room) s m #[(.ref o0), (.int p1)] below meth c s₁ [] 0 0 := Stand.of_body Bd
  have e0 : s₁.heap = h0 := by rw [← hh, Bd.state]; rfl
  have N0 := Fr.nil n0
  have pre0 : ∀ t, Steps p.tables e below (s₁.setTop (mkF m 0 #[.val (.ref o0), .val (.int p1), .unset, .unset] [])) t → Steps p.tables e below (s₁.setTop (entryFrame m #[(.ref o0), (.int p1)] 4)) t := fun t k => castTop (ef_FI m o0 p1) k
  obtain ⟨cl1, Ar1, S1, Nn1, -⟩ := id A_o0
  have pre2 : ∀ t, Steps p.tables e below (s₁.setTop (mkF m 5 #[.val (.ref o0), .val (.int p1), .val (.int (0 : Int32)), .val (.int len)] [])) t → Steps p.tables e below (s₁.setTop (entryFrame m #[(.ref o0), (.int p1)] 4)) t := fun t kt => pre0 t (by
      show Steps p.tables e below (s₁.setTop (mkF m 0 #[.val (.ref o0), .val (.int p1), .unset, .unset] [])) _
      refine XS.iconst X0.here hx rfl (hb hby dFI_0) ?_
      show Steps p.tables e below (s₁.setTop (mkF m 1 #[.val (.ref o0), .val (.int p1), .unset, .unset] [(.int (0 : Int32))])) _
      refine XS.istoreN X0.here hx rfl (hb hby dFI_1) rfl (l' := #[.val (.ref o0), .val (.int p1), .val (.int (0 : Int32)), .unset]) rfl ?_
      show Steps p.tables e below (s₁.setTop (mkF m 2 #[.val (.ref o0), .val (.int p1), .val (.int (0 : Int32)), .unset] [])) _
      refine XS.aloadN X0.here hx rfl (hb hby dFI_2) rfl rfl ?_
      show Steps p.tables e below (s₁.setTop (mkF m 3 #[.val (.ref o0), .val (.int p1), .val (.int (0 : Int32)), .unset] [(.ref o0)])) _
      refine X0.arraylength hx (by rw [e0]; exact Ar1.1) (State.isArrayOf_alike hZ.alike Ar1.2.1) (g := (mkF m 3 #[.val (.ref o0), .val (.int p1), .val (.int (0 : Int32)), .unset] [(.ref o0)])) rfl rfl (hb hby dFI_3) _ ?_
      rw [len_of S1 Nn1]
      show Steps p.tables e below (s₁.setTop (mkF m 4 #[.val (.ref o0), .val (.int p1), .val (.int (0 : Int32)), .unset] [(.int len)])) _
      refine XS.istoreN X0.here hx rfl (hb hby dFI_4) rfl (l' := #[.val (.ref o0), .val (.int p1), .val (.int (0 : Int32)), .val (.int len)]) rfl ?_
      exact kt)
  have loop : ∀ (k : Nat) (T : State) (locs : List Loc) (h : Heap) (i : Int32) (f : Int32 → Int32), Stand p l e ({ frames := 0, cells := 0, slots := 0, locals := 0 } : Room) s m #[(.ref o0), (.int p1)] below meth c T locs 0 0 → T.heap = h → Fr n0 locs → n0 ≤ h.size → ArF Z h o0 len f → ¬ i < 0 → (∀ j, ¬ j < 0 → j < i → f j = p1) → i.toInt + (k : Int) = len.toInt → ∃ (T' : State) (locs' : List Loc) (h' : Heap) (iz : Int32), Stand p l e ({ frames := 0, cells := 0, slots := 0, locals := 0 } : Room) s m #[(.ref o0), (.int p1)] below meth c T' locs' 0 0 ∧ T'.heap = h' ∧ Fr n0 locs' ∧ Keep h h' [o0] ∧ ArF Z h' o0 len (fun _ => p1) ∧ ∀ t, Steps p.tables e below (T'.setTop (mkF m 20 #[.val (.ref o0), .val (.int p1), .val (.int iz), .val (.int len)] [])) t → Steps p.tables e below (T.setTop (mkF m 5 #[.val (.ref o0), .val (.int p1), .val (.int i), .val (.int len)] [])) t := by
    intro k
    induction k with
    | zero =>
      intro T locs h i f XT eT NT Zh AF hi0 hf hk
      have preS : ∀ t, Steps p.tables e below (T.setTop (mkF m 5 #[.val (.ref o0), .val (.int p1), .val (.int i), .val (.int len)] [])) t → Steps p.tables e below (T.setTop (mkF m 5 #[.val (.ref o0), .val (.int p1), .val (.int i), .val (.int len)] [])) t := fun t k => k
      exact ⟨T, _, h, i, XT, eT, NT, Keep.refl h [o0], AF.congr (fun j hj hl => hf j hj (own_of_eq hk hl)), fun t kt => preS t (by
          show Steps p.tables e below (T.setTop (mkF m 5 #[.val (.ref o0), .val (.int p1), .val (.int i), .val (.int len)] [])) _
          refine XS.iloadN XT.here hx rfl (hb hby dFI_5) rfl ?_
          show Steps p.tables e below (T.setTop (mkF m 6 #[.val (.ref o0), .val (.int p1), .val (.int i), .val (.int len)] [(.int i)])) _
          refine XS.iloadN XT.here hx rfl (hb hby dFI_6) rfl ?_
          show Steps p.tables e below (T.setTop (mkF m 7 #[.val (.ref o0), .val (.int p1), .val (.int i), .val (.int len)] [(.int len), (.int i)])) _
          refine XS.icmpYes XT.here hx rfl (pc0 := 7) (pc' := 20) rfl (hb hby dFI_7) rfl (flt (show ¬ (i < len) from (own_fill_ge hk))).2.1 (by decide) (by decide) ?_
          exact kt)⟩
    | succ k ih =>
      intro T locs h i f XT eT NT Zh AF hi0 hf hk
      have hlt := own_fill_lt hk
      have hs := own_fill_step hi0 hlt hf
      have preS : ∀ t, Steps p.tables e below (T.setTop (mkF m 5 #[.val (.ref o0), .val (.int p1), .val (.int i), .val (.int len)] [])) t → Steps p.tables e below (T.setTop (mkF m 5 #[.val (.ref o0), .val (.int p1), .val (.int i), .val (.int len)] [])) t := fun t k => k
      obtain ⟨cl3, Ar3, S3, Nn3, Hh3⟩ := id AF
      have ib3 : ¬ (i) < 0 ∧ (i) < len := ⟨hi0, hlt⟩
      obtain ⟨T4, h4, X4, e4, W4, st4⟩ := stI XT hx hZ eT Ar3 (j := i) (inb_of S3 ib3) (g := (mkF m 13 #[.val (.ref o0), .val (.int p1), .val (.int i), .val (.int len)] [(.int p1), (.int i), (.ref o0)])) rfl rfl (hb hby dFI_13)
      have V4 : ArF Z h4 o0 len (upd f i p1) := own_arf_set Ar3 S3 Nn3 Hh3 W4 ib3
      have K4 : Keep h h4 [o0] := Keep.wr (Keep.refl h [o0]) W4 (Or.inl (List.mem_of_getElem? (i := 0) rfl))
      have Z4 : n0 ≤ h4.size := Nat.le_trans Zh K4.1
      have N4 := Fr.snoc X4 NT g_o0
      obtain ⟨T', locs', h', iz, X', e', N', K', A', st'⟩ := ih T4 _ h4 (i + (1 : Int32)) _ X4 e4 N4 Z4 V4 hs.1 hs.2.1 (by rw [hs.2.2]; omega)
      exact ⟨T', locs', h', iz, X', e', N', Keep.trans K4 K' (own_side1 (Or.inl (List.mem_of_getElem? (i := 0) rfl))), A', fun t kt => preS t (by
          show Steps p.tables e below (T.setTop (mkF m 5 #[.val (.ref o0), .val (.int p1), .val (.int i), .val (.int len)] [])) _
          refine XS.iloadN XT.here hx rfl (hb hby dFI_5) rfl ?_
          show Steps p.tables e below (T.setTop (mkF m 6 #[.val (.ref o0), .val (.int p1), .val (.int i), .val (.int len)] [(.int i)])) _
          refine XS.iloadN XT.here hx rfl (hb hby dFI_6) rfl ?_
          show Steps p.tables e below (T.setTop (mkF m 7 #[.val (.ref o0), .val (.int p1), .val (.int i), .val (.int len)] [(.int len), (.int i)])) _
          refine XS.icmpNo XT.here hx rfl (hb hby dFI_7) rfl (tlt (show i < len from hlt)).2.1 ?_
          show Steps p.tables e below (T.setTop (mkF m 10 #[.val (.ref o0), .val (.int p1), .val (.int i), .val (.int len)] [])) _
          refine XS.aloadN XT.here hx rfl (hb hby dFI_10) rfl rfl ?_
          show Steps p.tables e below (T.setTop (mkF m 11 #[.val (.ref o0), .val (.int p1), .val (.int i), .val (.int len)] [(.ref o0)])) _
          refine XS.iloadN XT.here hx rfl (hb hby dFI_11) rfl ?_
          show Steps p.tables e below (T.setTop (mkF m 12 #[.val (.ref o0), .val (.int p1), .val (.int i), .val (.int len)] [(.int i), (.ref o0)])) _
          refine XS.iloadN XT.here hx rfl (hb hby dFI_12) rfl ?_
          show Steps p.tables e below (T.setTop (mkF m 13 #[.val (.ref o0), .val (.int p1), .val (.int i), .val (.int len)] [(.int p1), (.int i), (.ref o0)])) _
          refine st4 _ ?_
          show Steps p.tables e below (T4.setTop (mkF m 14 #[.val (.ref o0), .val (.int p1), .val (.int i), .val (.int len)] [])) _
          refine XS.iinc X4.here hx rfl (hb hby dFI_14) rfl (l' := #[.val (.ref o0), .val (.int p1), .val (.int (i + (1 : Int32))), .val (.int len)]) rfl ?_
          show Steps p.tables e below (T4.setTop (mkF m 17 #[.val (.ref o0), .val (.int p1), .val (.int (i + (1 : Int32))), .val (.int len)] [])) _
          refine XS.goto X4.here hx rfl (pc0 := 17) (pc' := 5) rfl (hb hby dFI_17) (by decide) (by decide) ?_
          exact st' t kt)⟩
  obtain ⟨Tl, ll, hl, iz, Xl, el, Nl, Kl, Al, stl⟩ := loop len.toInt.toNat s₁ _ h0 (0 : Int32) f X0 e0 N0 Z0 A_o0 (by decide) (fun j h0 h1 => absurd h1 h0) (by show (0 : Int) + _ = _; rw [Int32.lt_iff_toInt_lt] at hlen; have : ¬ len.toInt < 0 := hlen; omega)
  have pre5 : ∀ t, Steps p.tables e below (Tl.setTop (mkF m 20 #[.val (.ref o0), .val (.int p1), .val (.int iz), .val (.int len)] [])) t → Steps p.tables e below (s₁.setTop (entryFrame m #[(.ref o0), (.int p1)] 4)) t := fun t kt => pre2 t (stl t kt)
  obtain ⟨fs, hr, hrun, hended, hW, hsame⟩ := Xl.leave (v := none) (fun _ => rfl)
  refine ⟨_, _, pre5 _ ?_, hrun, hended, _, _, rfl, ?_, ⟨_, rfl⟩, hW, hsame.mono (by decide) (by decide)⟩
  · show Steps p.tables e below (Tl.setTop (mkF m 20 #[.val (.ref o0), .val (.int p1), .val (.int iz), .val (.int len)] [])) _
    exact Xl.returnOut hx Bd.returns (hb hby dFI_20) hr
  · show QFI Z o0 p1 len h0 n0 _ Tl.heap _
    rw [el]
    exact ⟨rfl, Nl, Kl, Al⟩
theorem dES_0 : decode prog_22_method_7_code 0 = .ok (.iload_n 0, 1) := by decide +kernel
theorem dES_1 : decode prog_22_method_7_code 1 = .ok (.newarray .int, 2) := by decide +kernel
theorem dES_3 : decode prog_22_method_7_code 3 = .ok (.astore_n 1, 1) := by decide +kernel
theorem dES_4 : decode prog_22_method_7_code 4 = .ok (.aload_n 1, 1) := by decide +kernel
theorem dES_5 : decode prog_22_method_7_code 5 = .ok (.iconst (-1), 1) := by decide +kernel
theorem dES_6 : decode prog_22_method_7_code 6 = .ok (.invokestatic 58, 3) := by decide +kernel
theorem dES_9 : decode prog_22_method_7_code 9 = .ok (.aload_n 1, 1) := by decide +kernel
theorem dES_10 : decode prog_22_method_7_code 10 = .ok (.areturn, 1) := by decide +kernel
theorem pn_1 : plainName "com/example/libforeword/libforeword/tree/NodeStore" = true := by first | (simp [plainName, overriddenIn]; done) | decide +kernel
theorem pd_0 : parseMethodDescriptor "([II)V" = some ⟨[(.array .int), .int], none⟩ := by decide +kernel
theorem ef_ES (m : MethodId)  : entryFrame m #[(.int (128 : Int32))] 2 = mkF m 0 #[.val (.int (128 : Int32)), .unset] [] := by first | (simp [entryFrame, mkF, argsToLocals, Value.category]; done) | rfl
def QES (Z : State) (h0 : Heap) (n0 : Nat) (v : Option Value) (h : Heap) (L : List Loc) : Prop := ∃ b, v = some (.ref b) ∧ Fr n0 L ∧ Keep h0 h [] ∧ h0.size ≤ b ∧ ArF Z h b (128 : Int32) (fun _ => (-1 : Int32))
set_option maxRecDepth 65536 in
set_option maxHeartbeats 40000000 in
theorem rmES (l : Launch) (Z : State) (a0 : Array Value) (hw : ∀ d ∈ tables_1, d.before a0 Z = true) (ws : List Jvm.Cond)  (h0 : Heap) (n0 : Nat) (Z0 : n0 ≤ h0.size)  :
    MetFree l (⟨"com/example/libforeword/libforeword/tree/NodeStore", "emptySlots", "(I)[I"⟩ : MethodName) (head1 (Jvm.Cond.code (⟨"com/example/libforeword/libforeword/tree/NodeStore", "emptySlots", "(I)[I"⟩ : MethodName) prog_22_method_7_code 2 (some (.array .int)) :: ws) ({ frames := 1, cells := 1, slots := 128, locals := 15 } : Room)) (fun a U => a = #[(.int (128 : Int32))] ∧ Z.Warmed39 U.vm ∧ U.heap = h0) (fun _ _ _ _ _ => True) (fun _ U o U' => ∃ v L, o = .returned v ∧ QES Z h0 n0 v U'.heap L ∧ FrameEnd U o U' L ({ frames := 1, cells := 1, slots := 128, locals := 15 } : Room).cells ({ frames := 1, cells := 1, slots := 128, locals := 15 } : Room).slots) := by
  refine MetFree.of_bodySF (plainFor_of_name pn_1) hisR ?_
  intro p e s m args below meth c s₁ Bd hml0 hP hK
  obtain ⟨rfl, hZ, hh⟩ := hP
  have hx := Bd.exec
  have hby := Bd.bytes
  have hml : c.maxLocals = 2 := hml0
  have hown : s.vm.findClass "com/example/libforeword/libforeword/tree/NodeStore" = some m.cls := findClass_of_methodNamed Bd.named
  have hnm := (name_of_methodNamed Bd.named Bd.method).1
  have X0 : Stand p l e ({ frames := 1, cells := 1, slots := 128, locals := 15 } : Room) s m #[(.int (128 : Int32))] below meth c s₁ [] 0 0 := Stand.of_body Bd
  have e0 : s₁.heap = h0 := by rw [← hh, Bd.state]; rfl
  have N0 := Fr.nil n0
  have pre0 : ∀ t, Steps p.tables e below (s₁.setTop (mkF m 0 #[.val (.int (128 : Int32)), .unset] [])) t → Steps p.tables e below (s₁.setTop (entryFrame m #[(.int (128 : Int32))] 2)) t := fun t k => castTop (ef_ES m ) k
  obtain ⟨T1, h1, k1, X1, e1, E1, A1, st1⟩ := newP X0 hx hZ (hw _ (List.mem_of_getElem? (i := 0) rfl)) e0 (g := (mkF m 1 #[.val (.int (128 : Int32)), .unset] [(.int (128 : Int32))])) rfl (hb hby dES_1) rfl (by decide) (cap := 128) (by decide) (by decide) (by decide) (by decide)
  obtain ⟨b1, g1⟩ : ∃ z, z = h0.size := ⟨_, rfl⟩
  rw [← g1] at A1 st1
  have g_b1 : n0 ≤ b1 := Nat.le_trans Z0 (Nat.le_of_eq g1.symm)
  have sz_b1 : h0.size ≤ b1 := Nat.le_trans (Keep.refl h0 []).1 (Nat.le_of_eq g1.symm)
  have K1 : Keep h0 h1 [] := Keep.ext (Keep.refl h0 []) E1
  have Z1 : n0 ≤ h1.size := Nat.le_trans Z0 K1.1
  have V_b1 : ArF Z h1 b1 (128 : Int32) (fun _ => (0 : Int32)) := own_arf_new A1 (by decide)
  obtain ⟨_, _, ⟨T2, L2, k2, n2⟩, -, X2, ⟨Lc2, hQ2, l2, y2, z2⟩, st2⟩ := Jvm.LawKit.callS X1 hx (y := (⟨"java/util/Arrays", "fill", "([II)V"⟩ : MethodName)) hown (mvT hZ (hw _ (List.mem_of_getElem? (i := 23) rfl))) (mvT hZ (hw _ (List.mem_of_getElem? (i := 24) rfl))) (mvT hZ (hw _ (List.mem_of_getElem? (i := 25) rfl))) (mvT hZ (hw _ (List.mem_of_getElem? (i := 26) rfl))) (by decide) (backOf (W := 0) (rmFI l Z a0 hw [] b1 (-1 : Int32) (128 : Int32) (fun _ => (0 : Int32)) h1 n0 Z1 V_b1 g_b1 (by decide)) hZ (hw _ (List.mem_of_getElem? (i := 26) rfl)) (hw _ (List.mem_of_getElem? (i := 25) rfl)) (by decide) (by decide)) (g := (mkF m 6 #[.val (.int (128 : Int32)), .val (.ref b1)] [(.int (-1 : Int32)), (.ref b1)])) rfl (by rw [hml]; rfl) (argsL := [(.ref b1), (.int (-1 : Int32))]) (rest := []) (lenOf pd_0 rfl) rfl (by show 2 * 0 + _ ≤ _; exact Nat.le_of_eq rfl) (hb hby dES_6) (fun _ _ => ⟨rfl, e1, (by decide : 1 + 0 ≤ _), (by decide : 128 + 0 ≤ _)⟩)
  dsimp only [Pt.U, Pt.locs, Pt.cells, Pt.slots] at X2 l2 y2 z2 st2 hQ2
  subst l2 y2 z2
  obtain ⟨rfl, N2q, K2, A2⟩ := hQ2
  have KK2 : Keep h0 T2.heap [] := Keep.trans K1 K2 (own_side1 (Or.inr sz_b1))
  have Z2 : n0 ≤ T2.heap.size := Nat.le_trans Z0 KK2.1
  have N2 := Fr.app N0 N2q
  obtain ⟨fs, hr, hrun, hended, hW, hsame⟩ := X2.leave (v := some (.ref b1)) (fun h => by rw [Bd.returns] at h; cases h)
  refine ⟨_, _, pre0 _ ?_, hrun, hended, _, _, rfl, ?_, ⟨_, rfl⟩, hW, hsame.mono (by decide) (by decide)⟩
  · show Steps p.tables e below (s₁.setTop (mkF m 0 #[.val (.int (128 : Int32)), .unset] [])) _
    refine XS.iloadN X0.here hx rfl (hb hby dES_0) rfl ?_
    show Steps p.tables e below (s₁.setTop (mkF m 1 #[.val (.int (128 : Int32)), .unset] [(.int (128 : Int32))])) _
    refine st1 _ ?_
    show Steps p.tables e below (T1.setTop (mkF m 3 #[.val (.int (128 : Int32)), .unset] [(.ref b1)])) _
    refine XS.astoreN X1.here hx rfl (hb hby dES_3) rfl rfl (l' := #[.val (.int (128 : Int32)), .val (.ref b1)]) rfl ?_
    show Steps p.tables e below (T1.setTop (mkF m 4 #[.val (.int (128 : Int32)), .val (.ref b1)] [])) _
    refine XS.aloadN X1.here hx rfl (hb hby dES_4) rfl rfl ?_
    show Steps p.tables e below (T1.setTop (mkF m 5 #[.val (.int (128 : Int32)), .val (.ref b1)] [(.ref b1)])) _
    refine XS.iconst X1.here hx rfl (hb hby dES_5) ?_
    show Steps p.tables e below (T1.setTop (mkF m 6 #[.val (.int (128 : Int32)), .val (.ref b1)] [(.int (-1 : Int32)), (.ref b1)])) _
    refine st2 _ ?_
    show Steps p.tables e below (T2.setTop (mkF m 9 #[.val (.int (128 : Int32)), .val (.ref b1)] [])) _
    refine XS.aloadN X2.here hx rfl (hb hby dES_9) rfl rfl ?_
    show Steps p.tables e below (T2.setTop (mkF m 10 #[.val (.int (128 : Int32)), .val (.ref b1)] [(.ref b1)])) _
    exact retOut X2 hx (i := .areturn) Bd.returns rfl (Or.inr (Or.inr (Or.inr (Or.inr ⟨rfl, rfl, rfl⟩)))) (hb hby dES_10) hr
  · show QES Z h0 n0 _ T2.heap _
    exact ⟨b1, rfl, N2, KK2, sz_b1, A2⟩
theorem dNI_0 : decode prog_22_method_1_code 0 = .ok (.aload_n 0, 1) := by decide +kernel
theorem dNI_1 : decode prog_22_method_1_code 1 = .ok (.invokespecial 1, 3) := by decide +kernel
theorem dNI_4 : decode prog_22_method_1_code 4 = .ok (.aload_n 0, 1) := by decide +kernel
theorem dNI_5 : decode prog_22_method_1_code 5 = .ok (.bipush 64, 2) := by decide +kernel
theorem dNI_7 : decode prog_22_method_1_code 7 = .ok (.newarray .int, 2) := by decide +kernel
theorem dNI_9 : decode prog_22_method_1_code 9 = .ok (.putfield 7, 3) := by decide +kernel
theorem dNI_12 : decode prog_22_method_1_code 12 = .ok (.aload_n 0, 1) := by decide +kernel
theorem dNI_13 : decode prog_22_method_1_code 13 = .ok (.bipush 64, 2) := by decide +kernel
theorem dNI_15 : decode prog_22_method_1_code 15 = .ok (.newarray .int, 2) := by decide +kernel
theorem dNI_17 : decode prog_22_method_1_code 17 = .ok (.putfield 13, 3) := by decide +kernel
theorem dNI_20 : decode prog_22_method_1_code 20 = .ok (.aload_n 0, 1) := by decide +kernel
theorem dNI_21 : decode prog_22_method_1_code 21 = .ok (.bipush 64, 2) := by decide +kernel
theorem dNI_23 : decode prog_22_method_1_code 23 = .ok (.newarray .int, 2) := by decide +kernel
theorem dNI_25 : decode prog_22_method_1_code 25 = .ok (.putfield 16, 3) := by decide +kernel
theorem dNI_28 : decode prog_22_method_1_code 28 = .ok (.aload_n 0, 1) := by decide +kernel
theorem dNI_29 : decode prog_22_method_1_code 29 = .ok (.bipush 64, 2) := by decide +kernel
theorem dNI_31 : decode prog_22_method_1_code 31 = .ok (.newarray .int, 2) := by decide +kernel
theorem dNI_33 : decode prog_22_method_1_code 33 = .ok (.putfield 19, 3) := by decide +kernel
theorem dNI_36 : decode prog_22_method_1_code 36 = .ok (.aload_n 0, 1) := by decide +kernel
theorem dNI_37 : decode prog_22_method_1_code 37 = .ok (.bipush 64, 2) := by decide +kernel
theorem dNI_39 : decode prog_22_method_1_code 39 = .ok (.newarray .int, 2) := by decide +kernel
theorem dNI_41 : decode prog_22_method_1_code 41 = .ok (.putfield 22, 3) := by decide +kernel
theorem dNI_44 : decode prog_22_method_1_code 44 = .ok (.aload_n 0, 1) := by decide +kernel
theorem dNI_45 : decode prog_22_method_1_code 45 = .ok (.sipush 128, 3) := by decide +kernel
theorem dNI_48 : decode prog_22_method_1_code 48 = .ok (.invokestatic 25, 3) := by decide +kernel
theorem dNI_51 : decode prog_22_method_1_code 51 = .ok (.putfield 29, 3) := by decide +kernel
theorem dNI_54 : decode prog_22_method_1_code 54 = .ok (.return_, 1) := by decide +kernel
theorem pd_1 : parseMethodDescriptor "(I)[I" = some ⟨[.int], some (.array .int)⟩ := by decide +kernel
theorem ef_NI (m : MethodId) (o0 : Addr) : entryFrame m #[(.ref o0)] 1 = mkF m 0 #[.val (.ref o0)] [] := by first | (simp [entryFrame, mkF, argsToLocals, Value.category]; done) | rfl
def QNI (Z : State) (o0 : Addr) (h0 : Heap) (n0 : Nat) (v : Option Value) (h : Heap) (L : List Loc) : Prop := v = none ∧ Fr n0 L ∧ Keep h0 h [o0] ∧ ∃ cp fr lo eq hi sl, NS Z h n0 o0 cp fr lo eq hi sl emptyS ∧ Dist o0 cp fr lo eq hi sl ∧ h0.size ≤ cp ∧ h0.size ≤ fr ∧ h0.size ≤ lo ∧ h0.size ≤ eq ∧ h0.size ≤ hi ∧ h0.size ≤ sl
set_option maxRecDepth 65536 in
set_option maxHeartbeats 40000000 in
theorem rmNI (l : Launch) (Z : State) (a0 : Array Value) (hw : ∀ d ∈ tables_1, d.before a0 Z = true) (ws : List Jvm.Cond) (o0 : Addr) (h0 : Heap) (n0 : Nat) (Z0 : n0 ≤ h0.size) (E_o0 : Exa Z h0 o0 "com/example/libforeword/libforeword/tree/NodeStore") (F_size : Fld Z h0 o0 "com/example/libforeword/libforeword/tree/NodeStore" "size" "I" (.int (0 : Int32))) (F_cp : Fld Z h0 o0 "com/example/libforeword/libforeword/tree/NodeStore" "codePoints" "[I" .null) (F_fr : Fld Z h0 o0 "com/example/libforeword/libforeword/tree/NodeStore" "frequencies" "[I" .null) (F_lo : Fld Z h0 o0 "com/example/libforeword/libforeword/tree/NodeStore" "lows" "[I" .null) (F_eq : Fld Z h0 o0 "com/example/libforeword/libforeword/tree/NodeStore" "equals" "[I" .null) (F_hi : Fld Z h0 o0 "com/example/libforeword/libforeword/tree/NodeStore" "highs" "[I" .null) (F_sl : Fld Z h0 o0 "com/example/libforeword/libforeword/tree/NodeStore" "slots" "[I" .null) (g_o0 : n0 ≤ o0) :
    MetFree l (⟨"com/example/libforeword/libforeword/tree/NodeStore", "<init>", "()V"⟩ : MethodName) (head1 (Jvm.Cond.code (⟨"com/example/libforeword/libforeword/tree/NodeStore", "<init>", "()V"⟩ : MethodName) prog_22_method_1_code 1 none :: ws) ({ frames := 2, cells := 6, slots := 448, locals := 29 } : Room)) (fun a U => a = #[(.ref o0)] ∧ Z.Warmed39 U.vm ∧ U.heap = h0) (fun _ _ _ _ _ => True) (fun _ U o U' => ∃ v L, o = .returned v ∧ QNI Z o0 h0 n0 v U'.heap L ∧ FrameEnd U o U' L ({ frames := 2, cells := 6, slots := 448, locals := 29 } : Room).cells ({ frames := 2, cells := 6, slots := 448, locals := 29 } : Room).slots) := by
  refine MetFree.of_bodySF (plainFor_of_name pn_1) hisR ?_
  intro p e s m args below meth c s₁ Bd hml0 hP hK
  obtain ⟨rfl, hZ, hh⟩ := hP
  have hx := Bd.exec
  have hby := Bd.bytes
  have hml : c.maxLocals = 1 := hml0
  have hown : s.vm.findClass "com/example/libforeword/libforeword/tree/NodeStore" = some m.cls := findClass_of_methodNamed Bd.named
  have hnm := (name_of_methodNamed Bd.named Bd.method).1
  have X0 : Stand p l e ({ frames := 2, cells := 6, slots := 448, locals := 29 } : Room) s m #[(.ref o0)] below meth c s₁ [] 0 0 := Stand.of_body Bd
  have e0 : s₁.heap = h0 := by rw [← hh, Bd.state]; rfl
  have N0 := Fr.nil n0
  have pre0 : ∀ t, Steps p.tables e below (s₁.setTop (mkF m 0 #[.val (.ref o0)] [])) t → Steps p.tables e below (s₁.setTop (entryFrame m #[(.ref o0)] 1)) t := fun t k => castTop (ef_NI m o0) k
  obtain ⟨T1, X1, e1, st1⟩ := initO X0 hx hZ hown (hw _ (List.mem_of_getElem? (i := 7) rfl)) (hw _ (List.mem_of_getElem? (i := 8) rfl)) (hw _ (List.mem_of_getElem? (i := 9) rfl)) e0 (g := (mkF m 1 #[.val (.ref o0)] [(.ref o0)])) rfl (by rw [hml]; rfl) rfl (hb hby dNI_1) (by decide) (W := 0) (by show 2 * 0 + _ ≤ _; exact Nat.le_of_eq rfl) (by decide)
  obtain ⟨T2, h2, k2, X2, e2, E2, A2, st2⟩ := newP X1 hx hZ (hw _ (List.mem_of_getElem? (i := 0) rfl)) e1 (g := (mkF m 7 #[.val (.ref o0)] [(.int (64 : Int32)), (.ref o0)])) rfl (hb hby dNI_7) rfl (by decide) (cap := 64) (by decide) (by decide) (by decide) (by decide)
  obtain ⟨b2, g2⟩ : ∃ z, z = h0.size := ⟨_, rfl⟩
  rw [← g2] at A2 st2
  have g_b2 : n0 ≤ b2 := Nat.le_trans Z0 (Nat.le_of_eq g2.symm)
  have sz_b2 : h0.size ≤ b2 := Nat.le_trans (Keep.refl h0 [o0]).1 (Nat.le_of_eq g2.symm)
  have ne_o0_b2 : o0 ≠ b2 := Nat.ne_of_lt (Nat.lt_of_lt_of_le E_o0.lt (Nat.le_of_eq g2.symm))
  have K2 : Keep h0 h2 [o0] := Keep.ext (Keep.refl h0 [o0]) E2
  have Z2 : n0 ≤ h2.size := Nat.le_trans Z0 K2.1
  have V_b2 : ArF Z h2 b2 (64 : Int32) (fun _ => (0 : Int32)) := own_arf_new A2 (by decide)
  have f3 := (E_o0.ext E2)
  have f4 := (F_cp.ext E2)
  obtain ⟨T5, h5, X5, e5, W5, st5⟩ := putF X2 hx hZ hown (host := "") (Or.inl (hw _ (List.mem_of_getElem? (i := 10) rfl))) Via.refl e2 f4 f3 (Or.inl (hw _ (List.mem_of_getElem? (i := 11) rfl))) (hw _ (List.mem_of_getElem? (i := 2) rfl)) (ty := (.array .int)) (by decide) rfl rfl (g := (mkF m 9 #[.val (.ref o0)] [(.ref b2), (.ref o0)])) rfl rfl (hb hby dNI_9)
  have Fw5 := f4.same W5
  have K5 : Keep h0 h5 [o0] := Keep.wr K2 W5 (Or.inl (List.mem_of_getElem? (i := 0) rfl))
  have Z5 : n0 ≤ h5.size := Nat.le_trans Z0 K5.1
  have N5 := Fr.snoc X5 N0 g_o0
  have f6 := (f3.wr W5)
  have f7 := (V_b2.other W5 (Ne.symm ne_o0_b2))
  obtain ⟨T8, h8, k8, X8, e8, E8, A8, st8⟩ := newP X5 hx hZ (hw _ (List.mem_of_getElem? (i := 0) rfl)) e5 (g := (mkF m 15 #[.val (.ref o0)] [(.int (64 : Int32)), (.ref o0)])) rfl (hb hby dNI_15) rfl (by decide) (cap := 64) (by decide) (by decide) (by decide) (by decide)
  obtain ⟨b8, g8⟩ : ∃ z, z = h5.size := ⟨_, rfl⟩
  rw [← g8] at A8 st8
  have g_b8 : n0 ≤ b8 := Nat.le_trans Z5 (Nat.le_of_eq g8.symm)
  have sz_b8 : h0.size ≤ b8 := Nat.le_trans K5.1 (Nat.le_of_eq g8.symm)
  have ne_o0_b8 : o0 ≠ b8 := Nat.ne_of_lt (Nat.lt_of_lt_of_le f6.lt (Nat.le_of_eq g8.symm))
  have ne_b2_b8 : b2 ≠ b8 := Nat.ne_of_lt (Nat.lt_of_lt_of_le f7.lt (Nat.le_of_eq g8.symm))
  have K8 : Keep h0 h8 [o0] := Keep.ext K5 E8
  have Z8 : n0 ≤ h8.size := Nat.le_trans Z0 K8.1
  have V_b8 : ArF Z h8 b8 (64 : Int32) (fun _ => (0 : Int32)) := own_arf_new A8 (by decide)
  have f9 := (f6.ext E8)
  have f10 := (((F_fr.ext E2).other W5 (Or.inr (slot_ne (Or.inl (hw _ (List.mem_of_getElem? (i := 13) rfl))) (Or.inl (hw _ (List.mem_of_getElem? (i := 11) rfl))) (by decide) (t := (.array .int)) (t' := (.array .int)) (by decide) (by decide)))).ext E8)
  obtain ⟨T11, h11, X11, e11, W11, st11⟩ := putF X8 hx hZ hown (host := "") (Or.inl (hw _ (List.mem_of_getElem? (i := 12) rfl))) Via.refl e8 f10 f9 (Or.inl (hw _ (List.mem_of_getElem? (i := 13) rfl))) (hw _ (List.mem_of_getElem? (i := 2) rfl)) (ty := (.array .int)) (by decide) rfl rfl (g := (mkF m 17 #[.val (.ref o0)] [(.ref b8), (.ref o0)])) rfl rfl (hb hby dNI_17)
  have Fw11 := f10.same W11
  have K11 : Keep h0 h11 [o0] := Keep.wr K8 W11 (Or.inl (List.mem_of_getElem? (i := 0) rfl))
  have Z11 : n0 ≤ h11.size := Nat.le_trans Z0 K11.1
  have N11 := Fr.snoc X11 N5 g_o0
  have f12 := (f9.wr W11)
  have f13 := ((f7.ext E8).other W11 (Ne.symm ne_o0_b2))
  have f14 := (V_b8.other W11 (Ne.symm ne_o0_b8))
  obtain ⟨T15, h15, k15, X15, e15, E15, A15, st15⟩ := newP X11 hx hZ (hw _ (List.mem_of_getElem? (i := 0) rfl)) e11 (g := (mkF m 23 #[.val (.ref o0)] [(.int (64 : Int32)), (.ref o0)])) rfl (hb hby dNI_23) rfl (by decide) (cap := 64) (by decide) (by decide) (by decide) (by decide)
  obtain ⟨b15, g15⟩ : ∃ z, z = h11.size := ⟨_, rfl⟩
  rw [← g15] at A15 st15
  have g_b15 : n0 ≤ b15 := Nat.le_trans Z11 (Nat.le_of_eq g15.symm)
  have sz_b15 : h0.size ≤ b15 := Nat.le_trans K11.1 (Nat.le_of_eq g15.symm)
  have ne_o0_b15 : o0 ≠ b15 := Nat.ne_of_lt (Nat.lt_of_lt_of_le f12.lt (Nat.le_of_eq g15.symm))
  have ne_b2_b15 : b2 ≠ b15 := Nat.ne_of_lt (Nat.lt_of_lt_of_le f13.lt (Nat.le_of_eq g15.symm))
  have ne_b8_b15 : b8 ≠ b15 := Nat.ne_of_lt (Nat.lt_of_lt_of_le f14.lt (Nat.le_of_eq g15.symm))
  have K15 : Keep h0 h15 [o0] := Keep.ext K11 E15
  have Z15 : n0 ≤ h15.size := Nat.le_trans Z0 K15.1
  have V_b15 : ArF Z h15 b15 (64 : Int32) (fun _ => (0 : Int32)) := own_arf_new A15 (by decide)
  have f16 := (f12.ext E15)
  have f17 := (((((F_lo.ext E2).other W5 (Or.inr (slot_ne (Or.inl (hw _ (List.mem_of_getElem? (i := 15) rfl))) (Or.inl (hw _ (List.mem_of_getElem? (i := 11) rfl))) (by decide) (t := (.array .int)) (t' := (.array .int)) (by decide) (by decide)))).ext E8).other W11 (Or.inr (slot_ne (Or.inl (hw _ (List.mem_of_getElem? (i := 15) rfl))) (Or.inl (hw _ (List.mem_of_getElem? (i := 13) rfl))) (by decide) (t := (.array .int)) (t' := (.array .int)) (by decide) (by decide)))).ext E15)
  obtain ⟨T18, h18, X18, e18, W18, st18⟩ := putF X15 hx hZ hown (host := "") (Or.inl (hw _ (List.mem_of_getElem? (i := 14) rfl))) Via.refl e15 f17 f16 (Or.inl (hw _ (List.mem_of_getElem? (i := 15) rfl))) (hw _ (List.mem_of_getElem? (i := 2) rfl)) (ty := (.array .int)) (by decide) rfl rfl (g := (mkF m 25 #[.val (.ref o0)] [(.ref b15), (.ref o0)])) rfl rfl (hb hby dNI_25)
  have Fw18 := f17.same W18
  have K18 : Keep h0 h18 [o0] := Keep.wr K15 W18 (Or.inl (List.mem_of_getElem? (i := 0) rfl))
  have Z18 : n0 ≤ h18.size := Nat.le_trans Z0 K18.1
  have N18 := Fr.snoc X18 N11 g_o0
  have f19 := (f16.wr W18)
  have f20 := ((f13.ext E15).other W18 (Ne.symm ne_o0_b2))
  have f21 := ((f14.ext E15).other W18 (Ne.symm ne_o0_b8))
  have f22 := (V_b15.other W18 (Ne.symm ne_o0_b15))
  obtain ⟨T23, h23, k23, X23, e23, E23, A23, st23⟩ := newP X18 hx hZ (hw _ (List.mem_of_getElem? (i := 0) rfl)) e18 (g := (mkF m 31 #[.val (.ref o0)] [(.int (64 : Int32)), (.ref o0)])) rfl (hb hby dNI_31) rfl (by decide) (cap := 64) (by decide) (by decide) (by decide) (by decide)
  obtain ⟨b23, g23⟩ : ∃ z, z = h18.size := ⟨_, rfl⟩
  rw [← g23] at A23 st23
  have g_b23 : n0 ≤ b23 := Nat.le_trans Z18 (Nat.le_of_eq g23.symm)
  have sz_b23 : h0.size ≤ b23 := Nat.le_trans K18.1 (Nat.le_of_eq g23.symm)
  have ne_o0_b23 : o0 ≠ b23 := Nat.ne_of_lt (Nat.lt_of_lt_of_le f19.lt (Nat.le_of_eq g23.symm))
  have ne_b2_b23 : b2 ≠ b23 := Nat.ne_of_lt (Nat.lt_of_lt_of_le f20.lt (Nat.le_of_eq g23.symm))
  have ne_b8_b23 : b8 ≠ b23 := Nat.ne_of_lt (Nat.lt_of_lt_of_le f21.lt (Nat.le_of_eq g23.symm))
  have ne_b15_b23 : b15 ≠ b23 := Nat.ne_of_lt (Nat.lt_of_lt_of_le f22.lt (Nat.le_of_eq g23.symm))
  have K23 : Keep h0 h23 [o0] := Keep.ext K18 E23
  have Z23 : n0 ≤ h23.size := Nat.le_trans Z0 K23.1
  have V_b23 : ArF Z h23 b23 (64 : Int32) (fun _ => (0 : Int32)) := own_arf_new A23 (by decide)
  have f24 := (f19.ext E23)
  have f25 := (((((((F_eq.ext E2).other W5 (Or.inr (slot_ne (Or.inl (hw _ (List.mem_of_getElem? (i := 17) rfl))) (Or.inl (hw _ (List.mem_of_getElem? (i := 11) rfl))) (by decide) (t := (.array .int)) (t' := (.array .int)) (by decide) (by decide)))).ext E8).other W11 (Or.inr (slot_ne (Or.inl (hw _ (List.mem_of_getElem? (i := 17) rfl))) (Or.inl (hw _ (List.mem_of_getElem? (i := 13) rfl))) (by decide) (t := (.array .int)) (t' := (.array .int)) (by decide) (by decide)))).ext E15).other W18 (Or.inr (slot_ne (Or.inl (hw _ (List.mem_of_getElem? (i := 17) rfl))) (Or.inl (hw _ (List.mem_of_getElem? (i := 15) rfl))) (by decide) (t := (.array .int)) (t' := (.array .int)) (by decide) (by decide)))).ext E23)
  obtain ⟨T26, h26, X26, e26, W26, st26⟩ := putF X23 hx hZ hown (host := "") (Or.inl (hw _ (List.mem_of_getElem? (i := 16) rfl))) Via.refl e23 f25 f24 (Or.inl (hw _ (List.mem_of_getElem? (i := 17) rfl))) (hw _ (List.mem_of_getElem? (i := 2) rfl)) (ty := (.array .int)) (by decide) rfl rfl (g := (mkF m 33 #[.val (.ref o0)] [(.ref b23), (.ref o0)])) rfl rfl (hb hby dNI_33)
  have Fw26 := f25.same W26
  have K26 : Keep h0 h26 [o0] := Keep.wr K23 W26 (Or.inl (List.mem_of_getElem? (i := 0) rfl))
  have Z26 : n0 ≤ h26.size := Nat.le_trans Z0 K26.1
  have N26 := Fr.snoc X26 N18 g_o0
  have f27 := (f24.wr W26)
  have f28 := ((f20.ext E23).other W26 (Ne.symm ne_o0_b2))
  have f29 := ((f21.ext E23).other W26 (Ne.symm ne_o0_b8))
  have f30 := ((f22.ext E23).other W26 (Ne.symm ne_o0_b15))
  have f31 := (V_b23.other W26 (Ne.symm ne_o0_b23))
  obtain ⟨T32, h32, k32, X32, e32, E32, A32, st32⟩ := newP X26 hx hZ (hw _ (List.mem_of_getElem? (i := 0) rfl)) e26 (g := (mkF m 39 #[.val (.ref o0)] [(.int (64 : Int32)), (.ref o0)])) rfl (hb hby dNI_39) rfl (by decide) (cap := 64) (by decide) (by decide) (by decide) (by decide)
  obtain ⟨b32, g32⟩ : ∃ z, z = h26.size := ⟨_, rfl⟩
  rw [← g32] at A32 st32
  have g_b32 : n0 ≤ b32 := Nat.le_trans Z26 (Nat.le_of_eq g32.symm)
  have sz_b32 : h0.size ≤ b32 := Nat.le_trans K26.1 (Nat.le_of_eq g32.symm)
  have ne_o0_b32 : o0 ≠ b32 := Nat.ne_of_lt (Nat.lt_of_lt_of_le f27.lt (Nat.le_of_eq g32.symm))
  have ne_b2_b32 : b2 ≠ b32 := Nat.ne_of_lt (Nat.lt_of_lt_of_le f28.lt (Nat.le_of_eq g32.symm))
  have ne_b8_b32 : b8 ≠ b32 := Nat.ne_of_lt (Nat.lt_of_lt_of_le f29.lt (Nat.le_of_eq g32.symm))
  have ne_b15_b32 : b15 ≠ b32 := Nat.ne_of_lt (Nat.lt_of_lt_of_le f30.lt (Nat.le_of_eq g32.symm))
  have ne_b23_b32 : b23 ≠ b32 := Nat.ne_of_lt (Nat.lt_of_lt_of_le f31.lt (Nat.le_of_eq g32.symm))
  have K32 : Keep h0 h32 [o0] := Keep.ext K26 E32
  have Z32 : n0 ≤ h32.size := Nat.le_trans Z0 K32.1
  have V_b32 : ArF Z h32 b32 (64 : Int32) (fun _ => (0 : Int32)) := own_arf_new A32 (by decide)
  have f33 := (f27.ext E32)
  have f34 := (((((((((F_hi.ext E2).other W5 (Or.inr (slot_ne (Or.inl (hw _ (List.mem_of_getElem? (i := 19) rfl))) (Or.inl (hw _ (List.mem_of_getElem? (i := 11) rfl))) (by decide) (t := (.array .int)) (t' := (.array .int)) (by decide) (by decide)))).ext E8).other W11 (Or.inr (slot_ne (Or.inl (hw _ (List.mem_of_getElem? (i := 19) rfl))) (Or.inl (hw _ (List.mem_of_getElem? (i := 13) rfl))) (by decide) (t := (.array .int)) (t' := (.array .int)) (by decide) (by decide)))).ext E15).other W18 (Or.inr (slot_ne (Or.inl (hw _ (List.mem_of_getElem? (i := 19) rfl))) (Or.inl (hw _ (List.mem_of_getElem? (i := 15) rfl))) (by decide) (t := (.array .int)) (t' := (.array .int)) (by decide) (by decide)))).ext E23).other W26 (Or.inr (slot_ne (Or.inl (hw _ (List.mem_of_getElem? (i := 19) rfl))) (Or.inl (hw _ (List.mem_of_getElem? (i := 17) rfl))) (by decide) (t := (.array .int)) (t' := (.array .int)) (by decide) (by decide)))).ext E32)
  obtain ⟨T35, h35, X35, e35, W35, st35⟩ := putF X32 hx hZ hown (host := "") (Or.inl (hw _ (List.mem_of_getElem? (i := 18) rfl))) Via.refl e32 f34 f33 (Or.inl (hw _ (List.mem_of_getElem? (i := 19) rfl))) (hw _ (List.mem_of_getElem? (i := 2) rfl)) (ty := (.array .int)) (by decide) rfl rfl (g := (mkF m 41 #[.val (.ref o0)] [(.ref b32), (.ref o0)])) rfl rfl (hb hby dNI_41)
  have Fw35 := f34.same W35
  have K35 : Keep h0 h35 [o0] := Keep.wr K32 W35 (Or.inl (List.mem_of_getElem? (i := 0) rfl))
  have Z35 : n0 ≤ h35.size := Nat.le_trans Z0 K35.1
  have N35 := Fr.snoc X35 N26 g_o0
  obtain ⟨_, _, ⟨T36, L36, k36, n36⟩, -, X36, ⟨Lc36, hQ36, l36, y36, z36⟩, st36⟩ := Jvm.LawKit.callS X35 hx (y := (⟨"com/example/libforeword/libforeword/tree/NodeStore", "emptySlots", "(I)[I"⟩ : MethodName)) hown (mvT hZ (hw _ (List.mem_of_getElem? (i := 20) rfl))) (mvT hZ (hw _ (List.mem_of_getElem? (i := 21) rfl))) (mvT hZ (hw _ (List.mem_of_getElem? (i := 3) rfl))) (mvT hZ (hw _ (List.mem_of_getElem? (i := 22) rfl))) (by decide) (backOf (W := 1) (rmES l Z a0 hw [] h35 n0 Z35) hZ (hw _ (List.mem_of_getElem? (i := 22) rfl)) (hw _ (List.mem_of_getElem? (i := 3) rfl)) (by decide) (by decide)) (g := (mkF m 48 #[.val (.ref o0)] [(.int (128 : Int32)), (.ref o0)])) rfl (by rw [hml]; rfl) (argsL := [(.int (128 : Int32))]) (rest := [(.ref o0)]) (lenOf pd_1 rfl) rfl (by show 2 * 0 + _ ≤ _; exact Nat.le_of_eq rfl) (hb hby dNI_48) (fun _ _ => ⟨rfl, e35, (by decide : 5 + 1 ≤ _), (by decide : 320 + 128 ≤ _)⟩)
  dsimp only [Pt.U, Pt.locs, Pt.cells, Pt.slots] at X36 l36 y36 z36 st36 hQ36
  subst l36 y36 z36
  have f37 := (f33.wr W35)
  have f38 := ((f28.ext E32).other W35 (Ne.symm ne_o0_b2))
  have f39 := ((f29.ext E32).other W35 (Ne.symm ne_o0_b8))
  have f40 := ((f30.ext E32).other W35 (Ne.symm ne_o0_b15))
  have f41 := ((f31.ext E32).other W35 (Ne.symm ne_o0_b23))
  have f42 := (V_b32.other W35 (Ne.symm ne_o0_b32))
  obtain ⟨bs36, rfl, N36q, K36, ge36, A36⟩ := hQ36
  have g_bs36 : n0 ≤ bs36 := Nat.le_trans Z35 ge36
  have sz_bs36 : h0.size ≤ bs36 := Nat.le_trans K35.1 ge36
  have ne_o0_bs36 : o0 ≠ bs36 := Nat.ne_of_lt (Nat.lt_of_lt_of_le f37.lt ge36)
  have ne_b2_bs36 : b2 ≠ bs36 := Nat.ne_of_lt (Nat.lt_of_lt_of_le f38.lt ge36)
  have ne_b8_bs36 : b8 ≠ bs36 := Nat.ne_of_lt (Nat.lt_of_lt_of_le f39.lt ge36)
  have ne_b15_bs36 : b15 ≠ bs36 := Nat.ne_of_lt (Nat.lt_of_lt_of_le f40.lt ge36)
  have ne_b23_bs36 : b23 ≠ bs36 := Nat.ne_of_lt (Nat.lt_of_lt_of_le f41.lt ge36)
  have ne_b32_bs36 : b32 ≠ bs36 := Nat.ne_of_lt (Nat.lt_of_lt_of_le f42.lt ge36)
  have KK36 : Keep h0 T36.heap [o0] := Keep.trans K35 K36 own_side0
  have Z36 : n0 ≤ T36.heap.size := Nat.le_trans Z0 KK36.1
  have N36 := Fr.app N35 N36q
  have f43 := (f37.keep K36)
  have f44 := (((((((((((F_sl.ext E2).other W5 (Or.inr (slot_ne (Or.inl (hw _ (List.mem_of_getElem? (i := 28) rfl))) (Or.inl (hw _ (List.mem_of_getElem? (i := 11) rfl))) (by decide) (t := (.array .int)) (t' := (.array .int)) (by decide) (by decide)))).ext E8).other W11 (Or.inr (slot_ne (Or.inl (hw _ (List.mem_of_getElem? (i := 28) rfl))) (Or.inl (hw _ (List.mem_of_getElem? (i := 13) rfl))) (by decide) (t := (.array .int)) (t' := (.array .int)) (by decide) (by decide)))).ext E15).other W18 (Or.inr (slot_ne (Or.inl (hw _ (List.mem_of_getElem? (i := 28) rfl))) (Or.inl (hw _ (List.mem_of_getElem? (i := 15) rfl))) (by decide) (t := (.array .int)) (t' := (.array .int)) (by decide) (by decide)))).ext E23).other W26 (Or.inr (slot_ne (Or.inl (hw _ (List.mem_of_getElem? (i := 28) rfl))) (Or.inl (hw _ (List.mem_of_getElem? (i := 17) rfl))) (by decide) (t := (.array .int)) (t' := (.array .int)) (by decide) (by decide)))).ext E32).other W35 (Or.inr (slot_ne (Or.inl (hw _ (List.mem_of_getElem? (i := 28) rfl))) (Or.inl (hw _ (List.mem_of_getElem? (i := 19) rfl))) (by decide) (t := (.array .int)) (t' := (.array .int)) (by decide) (by decide)))).keep K36 (by simp))
  obtain ⟨T45, h45, X45, e45, W45, st45⟩ := putF X36 hx hZ hown (host := "") (Or.inl (hw _ (List.mem_of_getElem? (i := 27) rfl))) Via.refl rfl f44 f43 (Or.inl (hw _ (List.mem_of_getElem? (i := 28) rfl))) (hw _ (List.mem_of_getElem? (i := 2) rfl)) (ty := (.array .int)) (by decide) rfl rfl (g := (mkF m 51 #[.val (.ref o0)] [(.ref bs36), (.ref o0)])) rfl rfl (hb hby dNI_51)
  have Fw45 := f44.same W45
  have K45 : Keep h0 h45 [o0] := Keep.wr KK36 W45 (Or.inl (List.mem_of_getElem? (i := 0) rfl))
  have Z45 : n0 ≤ h45.size := Nat.le_trans Z0 K45.1
  have N45 := Fr.snoc X45 N36 g_o0
  have f46 := (f43.wr W45)
  have f47 := ((((((((((Fw5.ext E8).other W11 (Or.inr (slot_ne (Or.inl (hw _ (List.mem_of_getElem? (i := 11) rfl))) (Or.inl (hw _ (List.mem_of_getElem? (i := 13) rfl))) (by decide) (t := (.array .int)) (t' := (.array .int)) (by decide) (by decide)))).ext E15).other W18 (Or.inr (slot_ne (Or.inl (hw _ (List.mem_of_getElem? (i := 11) rfl))) (Or.inl (hw _ (List.mem_of_getElem? (i := 15) rfl))) (by decide) (t := (.array .int)) (t' := (.array .int)) (by decide) (by decide)))).ext E23).other W26 (Or.inr (slot_ne (Or.inl (hw _ (List.mem_of_getElem? (i := 11) rfl))) (Or.inl (hw _ (List.mem_of_getElem? (i := 17) rfl))) (by decide) (t := (.array .int)) (t' := (.array .int)) (by decide) (by decide)))).ext E32).other W35 (Or.inr (slot_ne (Or.inl (hw _ (List.mem_of_getElem? (i := 11) rfl))) (Or.inl (hw _ (List.mem_of_getElem? (i := 19) rfl))) (by decide) (t := (.array .int)) (t' := (.array .int)) (by decide) (by decide)))).keep K36 (by simp)).other W45 (Or.inr (slot_ne (Or.inl (hw _ (List.mem_of_getElem? (i := 11) rfl))) (Or.inl (hw _ (List.mem_of_getElem? (i := 28) rfl))) (by decide) (t := (.array .int)) (t' := (.array .int)) (by decide) (by decide))))
  have f48 := ((((((((Fw11.ext E15).other W18 (Or.inr (slot_ne (Or.inl (hw _ (List.mem_of_getElem? (i := 13) rfl))) (Or.inl (hw _ (List.mem_of_getElem? (i := 15) rfl))) (by decide) (t := (.array .int)) (t' := (.array .int)) (by decide) (by decide)))).ext E23).other W26 (Or.inr (slot_ne (Or.inl (hw _ (List.mem_of_getElem? (i := 13) rfl))) (Or.inl (hw _ (List.mem_of_getElem? (i := 17) rfl))) (by decide) (t := (.array .int)) (t' := (.array .int)) (by decide) (by decide)))).ext E32).other W35 (Or.inr (slot_ne (Or.inl (hw _ (List.mem_of_getElem? (i := 13) rfl))) (Or.inl (hw _ (List.mem_of_getElem? (i := 19) rfl))) (by decide) (t := (.array .int)) (t' := (.array .int)) (by decide) (by decide)))).keep K36 (by simp)).other W45 (Or.inr (slot_ne (Or.inl (hw _ (List.mem_of_getElem? (i := 13) rfl))) (Or.inl (hw _ (List.mem_of_getElem? (i := 28) rfl))) (by decide) (t := (.array .int)) (t' := (.array .int)) (by decide) (by decide))))
  have f49 := ((((((Fw18.ext E23).other W26 (Or.inr (slot_ne (Or.inl (hw _ (List.mem_of_getElem? (i := 15) rfl))) (Or.inl (hw _ (List.mem_of_getElem? (i := 17) rfl))) (by decide) (t := (.array .int)) (t' := (.array .int)) (by decide) (by decide)))).ext E32).other W35 (Or.inr (slot_ne (Or.inl (hw _ (List.mem_of_getElem? (i := 15) rfl))) (Or.inl (hw _ (List.mem_of_getElem? (i := 19) rfl))) (by decide) (t := (.array .int)) (t' := (.array .int)) (by decide) (by decide)))).keep K36 (by simp)).other W45 (Or.inr (slot_ne (Or.inl (hw _ (List.mem_of_getElem? (i := 15) rfl))) (Or.inl (hw _ (List.mem_of_getElem? (i := 28) rfl))) (by decide) (t := (.array .int)) (t' := (.array .int)) (by decide) (by decide))))
  have f50 := ((((Fw26.ext E32).other W35 (Or.inr (slot_ne (Or.inl (hw _ (List.mem_of_getElem? (i := 17) rfl))) (Or.inl (hw _ (List.mem_of_getElem? (i := 19) rfl))) (by decide) (t := (.array .int)) (t' := (.array .int)) (by decide) (by decide)))).keep K36 (by simp)).other W45 (Or.inr (slot_ne (Or.inl (hw _ (List.mem_of_getElem? (i := 17) rfl))) (Or.inl (hw _ (List.mem_of_getElem? (i := 28) rfl))) (by decide) (t := (.array .int)) (t' := (.array .int)) (by decide) (by decide))))
  have f51 := ((Fw35.keep K36 (by simp)).other W45 (Or.inr (slot_ne (Or.inl (hw _ (List.mem_of_getElem? (i := 19) rfl))) (Or.inl (hw _ (List.mem_of_getElem? (i := 28) rfl))) (by decide) (t := (.array .int)) (t' := (.array .int)) (by decide) (by decide))))
  have f52 := ((((((((((((F_size.ext E2).other W5 (Or.inr (slot_ne (Or.inl (hw _ (List.mem_of_getElem? (i := 51) rfl))) (Or.inl (hw _ (List.mem_of_getElem? (i := 11) rfl))) (by decide) (t := .int) (t' := (.array .int)) (by decide) (by decide)))).ext E8).other W11 (Or.inr (slot_ne (Or.inl (hw _ (List.mem_of_getElem? (i := 51) rfl))) (Or.inl (hw _ (List.mem_of_getElem? (i := 13) rfl))) (by decide) (t := .int) (t' := (.array .int)) (by decide) (by decide)))).ext E15).other W18 (Or.inr (slot_ne (Or.inl (hw _ (List.mem_of_getElem? (i := 51) rfl))) (Or.inl (hw _ (List.mem_of_getElem? (i := 15) rfl))) (by decide) (t := .int) (t' := (.array .int)) (by decide) (by decide)))).ext E23).other W26 (Or.inr (slot_ne (Or.inl (hw _ (List.mem_of_getElem? (i := 51) rfl))) (Or.inl (hw _ (List.mem_of_getElem? (i := 17) rfl))) (by decide) (t := .int) (t' := (.array .int)) (by decide) (by decide)))).ext E32).other W35 (Or.inr (slot_ne (Or.inl (hw _ (List.mem_of_getElem? (i := 51) rfl))) (Or.inl (hw _ (List.mem_of_getElem? (i := 19) rfl))) (by decide) (t := .int) (t' := (.array .int)) (by decide) (by decide)))).keep K36 (by simp)).other W45 (Or.inr (slot_ne (Or.inl (hw _ (List.mem_of_getElem? (i := 51) rfl))) (Or.inl (hw _ (List.mem_of_getElem? (i := 28) rfl))) (by decide) (t := .int) (t' := (.array .int)) (by decide) (by decide))))
  have f53 := ((f38.keep K36 (by simp)).other W45 (Ne.symm ne_o0_b2))
  have f54 := ((f39.keep K36 (by simp)).other W45 (Ne.symm ne_o0_b8))
  have f55 := ((f40.keep K36 (by simp)).other W45 (Ne.symm ne_o0_b15))
  have f56 := ((f41.keep K36 (by simp)).other W45 (Ne.symm ne_o0_b23))
  have f57 := ((f42.keep K36 (by simp)).other W45 (Ne.symm ne_o0_b32))
  have f58 := (A36.other W45 (Ne.symm ne_o0_bs36))
  obtain ⟨fs, hr, hrun, hended, hW, hsame⟩ := X45.leave (v := none) (fun _ => rfl)
  refine ⟨_, _, pre0 _ ?_, hrun, hended, _, _, rfl, ?_, ⟨_, rfl⟩, hW, hsame.mono (by decide) (by decide)⟩
  · show Steps p.tables e below (s₁.setTop (mkF m 0 #[.val (.ref o0)] [])) _
    refine XS.aloadN X0.here hx rfl (hb hby dNI_0) rfl rfl ?_
    show Steps p.tables e below (s₁.setTop (mkF m 1 #[.val (.ref o0)] [(.ref o0)])) _
    refine st1 _ ?_
    show Steps p.tables e below (T1.setTop (mkF m 4 #[.val (.ref o0)] [])) _
    refine XS.aloadN X1.here hx rfl (hb hby dNI_4) rfl rfl ?_
    show Steps p.tables e below (T1.setTop (mkF m 5 #[.val (.ref o0)] [(.ref o0)])) _
    refine XS.bipush X1.here hx rfl (hb hby dNI_5) ?_
    show Steps p.tables e below (T1.setTop (mkF m 7 #[.val (.ref o0)] [(.int (64 : Int32)), (.ref o0)])) _
    refine st2 _ ?_
    show Steps p.tables e below (T2.setTop (mkF m 9 #[.val (.ref o0)] [(.ref b2), (.ref o0)])) _
    refine st5 _ ?_
    show Steps p.tables e below (T5.setTop (mkF m 12 #[.val (.ref o0)] [])) _
    refine XS.aloadN X5.here hx rfl (hb hby dNI_12) rfl rfl ?_
    show Steps p.tables e below (T5.setTop (mkF m 13 #[.val (.ref o0)] [(.ref o0)])) _
    refine XS.bipush X5.here hx rfl (hb hby dNI_13) ?_
    show Steps p.tables e below (T5.setTop (mkF m 15 #[.val (.ref o0)] [(.int (64 : Int32)), (.ref o0)])) _
    refine st8 _ ?_
    show Steps p.tables e below (T8.setTop (mkF m 17 #[.val (.ref o0)] [(.ref b8), (.ref o0)])) _
    refine st11 _ ?_
    show Steps p.tables e below (T11.setTop (mkF m 20 #[.val (.ref o0)] [])) _
    refine XS.aloadN X11.here hx rfl (hb hby dNI_20) rfl rfl ?_
    show Steps p.tables e below (T11.setTop (mkF m 21 #[.val (.ref o0)] [(.ref o0)])) _
    refine XS.bipush X11.here hx rfl (hb hby dNI_21) ?_
    show Steps p.tables e below (T11.setTop (mkF m 23 #[.val (.ref o0)] [(.int (64 : Int32)), (.ref o0)])) _
    refine st15 _ ?_
    show Steps p.tables e below (T15.setTop (mkF m 25 #[.val (.ref o0)] [(.ref b15), (.ref o0)])) _
    refine st18 _ ?_
    show Steps p.tables e below (T18.setTop (mkF m 28 #[.val (.ref o0)] [])) _
    refine XS.aloadN X18.here hx rfl (hb hby dNI_28) rfl rfl ?_
    show Steps p.tables e below (T18.setTop (mkF m 29 #[.val (.ref o0)] [(.ref o0)])) _
    refine XS.bipush X18.here hx rfl (hb hby dNI_29) ?_
    show Steps p.tables e below (T18.setTop (mkF m 31 #[.val (.ref o0)] [(.int (64 : Int32)), (.ref o0)])) _
    refine st23 _ ?_
    show Steps p.tables e below (T23.setTop (mkF m 33 #[.val (.ref o0)] [(.ref b23), (.ref o0)])) _
    refine st26 _ ?_
    show Steps p.tables e below (T26.setTop (mkF m 36 #[.val (.ref o0)] [])) _
    refine XS.aloadN X26.here hx rfl (hb hby dNI_36) rfl rfl ?_
    show Steps p.tables e below (T26.setTop (mkF m 37 #[.val (.ref o0)] [(.ref o0)])) _
    refine XS.bipush X26.here hx rfl (hb hby dNI_37) ?_
    show Steps p.tables e below (T26.setTop (mkF m 39 #[.val (.ref o0)] [(.int (64 : Int32)), (.ref o0)])) _
    refine st32 _ ?_
    show Steps p.tables e below (T32.setTop (mkF m 41 #[.val (.ref o0)] [(.ref b32), (.ref o0)])) _
    refine st35 _ ?_
    show Steps p.tables e below (T35.setTop (mkF m 44 #[.val (.ref o0)] [])) _
    refine XS.aloadN X35.here hx rfl (hb hby dNI_44) rfl rfl ?_
    show Steps p.tables e below (T35.setTop (mkF m 45 #[.val (.ref o0)] [(.ref o0)])) _
    refine XS.sipush X35.here hx rfl (hb hby dNI_45) ?_
    show Steps p.tables e below (T35.setTop (mkF m 48 #[.val (.ref o0)] [(.int (128 : Int32)), (.ref o0)])) _
    refine st36 _ ?_
    show Steps p.tables e below (T36.setTop (mkF m 51 #[.val (.ref o0)] [(.ref bs36), (.ref o0)])) _
    refine st45 _ ?_
    show Steps p.tables e below (T45.setTop (mkF m 54 #[.val (.ref o0)] [])) _
    exact X45.returnOut hx Bd.returns (hb hby dNI_54) hr
  · show QNI Z o0 h0 n0 _ T45.heap _
    rw [e45]
    exact ⟨rfl, N45, K45, b2, b8, b15, b23, b32, bs36, ⟨f46, f47, f48, f49, f50, f51, Fw45, f52, f53, f54, f55, f56, f57, f58, g_o0, g_b2, g_b8, g_b15, g_b23, g_b32, g_bs36⟩, ⟨ne_o0_b2, ne_o0_b8, ne_o0_b15, ne_o0_b23, ne_o0_b32, ne_o0_bs36, ne_b2_b8, ne_b2_b15, ne_b2_b23, ne_b2_b32, ne_b2_bs36, ne_b8_b15, ne_b8_b23, ne_b8_b32, ne_b8_bs36, ne_b15_b23, ne_b15_b32, ne_b15_bs36, ne_b23_b32, ne_b23_bs36, ne_b32_bs36⟩, sz_b2, sz_b8, sz_b15, sz_b23, sz_b32, sz_bs36⟩
theorem dHS_0 : decode prog_24_method_2_code 0 = .ok (.lload_n 0, 1) := by decide +kernel
theorem dHS_1 : decode prog_24_method_2_code 1 = .ok (.iload_n 2, 1) := by decide +kernel
theorem dHS_2 : decode prog_24_method_2_code 2 = .ok (.i2l, 1) := by decide +kernel
theorem dHS_3 : decode prog_24_method_2_code 3 = .ok (.ladd, 1) := by decide +kernel
theorem dHS_4 : decode prog_24_method_2_code 4 = .ok (.ldc2_w 27, 3) := by decide +kernel
theorem dHS_7 : decode prog_24_method_2_code 7 = .ok (.lmul, 1) := by decide +kernel
theorem dHS_8 : decode prog_24_method_2_code 8 = .ok (.lreturn, 1) := by decide +kernel
theorem pn_2 : plainName "com/example/libforeword/libforeword/tree/Slice" = true := by first | (simp [plainName, overriddenIn]; done) | decide +kernel
theorem ef_HS (m : MethodId) (q0 : Int64) (p1 : Int32) : entryFrame m #[(.long q0), (.int p1)] 3 = mkF m 0 #[.val (.long q0), .second, .val (.int p1)] [] := by first | (simp [entryFrame, mkF, argsToLocals, Value.category]; done) | rfl
def QHS (q0 : Int64) (p1 : Int32) (h0 : Heap) (n0 : Nat) (v : Option Value) (h : Heap) (L : List Loc) : Prop := v = some (.long (stepH q0 p1)) ∧ Fr n0 L ∧ h = h0
set_option maxRecDepth 65536 in
set_option maxHeartbeats 40000000 in
theorem rmHS (l : Launch) (Z : State) (a0 : Array Value) (hw : ∀ d ∈ tables_1, d.before a0 Z = true) (ws : List Jvm.Cond) (q0 : Int64) (p1 : Int32) (h0 : Heap) (n0 : Nat) (Z0 : n0 ≤ h0.size)  :
    MetFree l (⟨"com/example/libforeword/libforeword/tree/Slice", "hashStep", "(JI)J"⟩ : MethodName) (head1 (Jvm.Cond.code (⟨"com/example/libforeword/libforeword/tree/Slice", "hashStep", "(JI)J"⟩ : MethodName) prog_24_method_2_code 3 (some .long) :: ws) ({ frames := 0, cells := 0, slots := 0, locals := 0 } : Room)) (fun a U => a = #[(.long q0), (.int p1)] ∧ Z.Warmed39 U.vm ∧ U.heap = h0) (fun _ _ _ _ _ => True) (fun _ U o U' => ∃ v L, o = .returned v ∧ QHS q0 p1 h0 n0 v U'.heap L ∧ FrameEnd U o U' L ({ frames := 0, cells := 0, slots := 0, locals := 0 } : Room).cells ({ frames := 0, cells := 0, slots := 0, locals := 0 } : Room).slots) := by
  refine MetFree.of_bodySF (plainFor_of_name pn_2) hisR ?_
  intro p e s m args below meth c s₁ Bd hml0 hP hK
  obtain ⟨rfl, hZ, hh⟩ := hP
  have hx := Bd.exec
  have hby := Bd.bytes
  have hml : c.maxLocals = 3 := hml0
  have hown : s.vm.findClass "com/example/libforeword/libforeword/tree/Slice" = some m.cls := findClass_of_methodNamed Bd.named
  have hnm := (name_of_methodNamed Bd.named Bd.method).1
  have X0 : Stand p l e ({ frames := 0, cells := 0, slots := 0, locals := 0 } : Room) s m #[(.long q0), (.int p1)] below meth c s₁ [] 0 0 := Stand.of_body Bd
  have e0 : s₁.heap = h0 := by rw [← hh, Bd.state]; rfl
  have N0 := Fr.nil n0
  have pre0 : ∀ t, Steps p.tables e below (s₁.setTop (mkF m 0 #[.val (.long q0), .second, .val (.int p1)] [])) t → Steps p.tables e below (s₁.setTop (entryFrame m #[(.long q0), (.int p1)] 3)) t := fun t k => castTop (ef_HS m q0 p1) k
  obtain ⟨fs, hr, hrun, hended, hW, hsame⟩ := X0.leave (v := some (.long ((q0 + (p1.toInt64)) * (-7046029254386353131 : Int64)))) (fun h => by rw [Bd.returns] at h; cases h)
  refine ⟨_, _, pre0 _ ?_, hrun, hended, _, _, rfl, ?_, ⟨_, rfl⟩, hW, hsame.mono (by decide) (by decide)⟩
  · show Steps p.tables e below (s₁.setTop (mkF m 0 #[.val (.long q0), .second, .val (.int p1)] [])) _
    refine XS.lloadN X0.here hx rfl (hb hby dHS_0) rfl ?_
    show Steps p.tables e below (s₁.setTop (mkF m 1 #[.val (.long q0), .second, .val (.int p1)] [(.long q0)])) _
    refine XS.iloadN X0.here hx rfl (hb hby dHS_1) rfl ?_
    show Steps p.tables e below (s₁.setTop (mkF m 2 #[.val (.long q0), .second, .val (.int p1)] [(.int p1), (.long q0)])) _
    refine XS.i2l X0.here hx rfl (hb hby dHS_2) rfl ?_
    show Steps p.tables e below (s₁.setTop (mkF m 3 #[.val (.long q0), .second, .val (.int p1)] [(.long (p1.toInt64)), (.long q0)])) _
    refine XS.ladd X0.here hx rfl (hb hby dHS_3) rfl ?_
    show Steps p.tables e below (s₁.setTop (mkF m 4 #[.val (.long q0), .second, .val (.int p1)] [(.long (q0 + (p1.toInt64)))])) _
    refine X0.ldc2J hx hown (mvT hZ (hw _ (List.mem_of_getElem? (i := 49) rfl))) (g := (mkF m 4 #[.val (.long q0), .second, .val (.int p1)] [(.long (q0 + (p1.toInt64)))])) rfl (hb hby dHS_4) ?_
    show Steps p.tables e below (s₁.setTop (mkF m 7 #[.val (.long q0), .second, .val (.int p1)] [(.long (-7046029254386353131 : Int64)), (.long (q0 + (p1.toInt64)))])) _
    refine XS.lmul X0.here hx rfl (hb hby dHS_7) rfl ?_
    show Steps p.tables e below (s₁.setTop (mkF m 8 #[.val (.long q0), .second, .val (.int p1)] [(.long ((q0 + (p1.toInt64)) * (-7046029254386353131 : Int64)))])) _
    exact retOut X0 hx (t := .long) (i := .lreturn) Bd.returns rfl (Or.inr (Or.inl ⟨rfl, rfl, _, rfl⟩)) (hb hby dHS_8) hr
  · show QHS q0 p1 h0 n0 _ s₁.heap _
    rw [e0]
    exact ⟨rfl, N0, rfl⟩
theorem dHA_0 : decode prog_22_method_8_code 0 = .ok (.lconst 0, 1) := by decide +kernel
theorem dHA_1 : decode prog_22_method_8_code 1 = .ok (.iload_n 0, 1) := by decide +kernel
theorem dHA_2 : decode prog_22_method_8_code 2 = .ok (.invokestatic 62, 3) := by decide +kernel
theorem dHA_5 : decode prog_22_method_8_code 5 = .ok (.lstore 5, 2) := by decide +kernel
theorem dHA_7 : decode prog_22_method_8_code 7 = .ok (.lload 5, 2) := by decide +kernel
theorem dHA_9 : decode prog_22_method_8_code 9 = .ok (.iload_n 1, 1) := by decide +kernel
theorem dHA_10 : decode prog_22_method_8_code 10 = .ok (.invokestatic 62, 3) := by decide +kernel
theorem dHA_13 : decode prog_22_method_8_code 13 = .ok (.lstore 5, 2) := by decide +kernel
theorem dHA_15 : decode prog_22_method_8_code 15 = .ok (.lload 5, 2) := by decide +kernel
theorem dHA_17 : decode prog_22_method_8_code 17 = .ok (.iload_n 2, 1) := by decide +kernel
theorem dHA_18 : decode prog_22_method_8_code 18 = .ok (.invokestatic 62, 3) := by decide +kernel
theorem dHA_21 : decode prog_22_method_8_code 21 = .ok (.lstore 5, 2) := by decide +kernel
theorem dHA_23 : decode prog_22_method_8_code 23 = .ok (.lload 5, 2) := by decide +kernel
theorem dHA_25 : decode prog_22_method_8_code 25 = .ok (.iload_n 3, 1) := by decide +kernel
theorem dHA_26 : decode prog_22_method_8_code 26 = .ok (.invokestatic 62, 3) := by decide +kernel
theorem dHA_29 : decode prog_22_method_8_code 29 = .ok (.lstore 5, 2) := by decide +kernel
theorem dHA_31 : decode prog_22_method_8_code 31 = .ok (.lload 5, 2) := by decide +kernel
theorem dHA_33 : decode prog_22_method_8_code 33 = .ok (.iload 4, 2) := by decide +kernel
theorem dHA_35 : decode prog_22_method_8_code 35 = .ok (.invokestatic 62, 3) := by decide +kernel
theorem dHA_38 : decode prog_22_method_8_code 38 = .ok (.lstore 5, 2) := by decide +kernel
theorem dHA_40 : decode prog_22_method_8_code 40 = .ok (.lload 5, 2) := by decide +kernel
theorem dHA_42 : decode prog_22_method_8_code 42 = .ok (.bipush 32, 2) := by decide +kernel
theorem dHA_44 : decode prog_22_method_8_code 44 = .ok (.lushr, 1) := by decide +kernel
theorem dHA_45 : decode prog_22_method_8_code 45 = .ok (.l2i, 1) := by decide +kernel
theorem dHA_46 : decode prog_22_method_8_code 46 = .ok (.ireturn, 1) := by decide +kernel
theorem pd_2 : parseMethodDescriptor "(JI)J" = some ⟨[.long, .int], some .long⟩ := by decide +kernel
theorem ef_HA (m : MethodId) (p0 : Int32) (p1 : Int32) (p2 : Int32) (p3 : Int32) (p4 : Int32) : entryFrame m #[(.int p0), (.int p1), (.int p2), (.int p3), (.int p4)] 7 = mkF m 0 #[.val (.int p0), .val (.int p1), .val (.int p2), .val (.int p3), .val (.int p4), .unset, .unset] [] := by first | (simp [entryFrame, mkF, argsToLocals, Value.category]; done) | rfl
def QHA (p0 p1 p2 p3 p4 : Int32) (h0 : Heap) (n0 : Nat) (v : Option Value) (h : Heap) (L : List Loc) : Prop := v = some (.int (hashV p0 p1 p2 p3 p4)) ∧ Fr n0 L ∧ h = h0
set_option maxRecDepth 65536 in
set_option maxHeartbeats 40000000 in
theorem rmHA (l : Launch) (Z : State) (a0 : Array Value) (hw : ∀ d ∈ tables_1, d.before a0 Z = true) (ws : List Jvm.Cond) (p0 p1 p2 p3 p4 : Int32) (h0 : Heap) (n0 : Nat) (Z0 : n0 ≤ h0.size)  :
    MetFree l (⟨"com/example/libforeword/libforeword/tree/NodeStore", "hash", "(IIIII)I"⟩ : MethodName) (head1 (Jvm.Cond.code (⟨"com/example/libforeword/libforeword/tree/NodeStore", "hash", "(IIIII)I"⟩ : MethodName) prog_22_method_8_code 7 (some .int) :: ws) ({ frames := 1, cells := 0, slots := 0, locals := 14 } : Room)) (fun a U => a = #[(.int p0), (.int p1), (.int p2), (.int p3), (.int p4)] ∧ Z.Warmed39 U.vm ∧ U.heap = h0) (fun _ _ _ _ _ => True) (fun _ U o U' => ∃ v L, o = .returned v ∧ QHA p0 p1 p2 p3 p4 h0 n0 v U'.heap L ∧ FrameEnd U o U' L ({ frames := 1, cells := 0, slots := 0, locals := 14 } : Room).cells ({ frames := 1, cells := 0, slots := 0, locals := 14 } : Room).slots) := by
  refine MetFree.of_bodySF (plainFor_of_name pn_1) hisR ?_
  intro p e s m args below meth c s₁ Bd hml0 hP hK
  obtain ⟨rfl, hZ, hh⟩ := hP
  have hx := Bd.exec
  have hby := Bd.bytes
  have hml : c.maxLocals = 7 := hml0
  have hown : s.vm.findClass "com/example/libforeword/libforeword/tree/NodeStore" = some m.cls := findClass_of_methodNamed Bd.named
  have hnm := (name_of_methodNamed Bd.named Bd.method).1
  have X0 : Stand p l e ({ frames := 1, cells := 0, slots := 0, locals := 14 } : Room) s m #[(.int p0), (.int p1), (.int p2), (.int p3), (.int p4)] below meth c s₁ [] 0 0 := Stand.of_body Bd
  have e0 : s₁.heap = h0 := by rw [← hh, Bd.state]; rfl
  have N0 := Fr.nil n0
  have pre0 : ∀ t, Steps p.tables e below (s₁.setTop (mkF m 0 #[.val (.int p0), .val (.int p1), .val (.int p2), .val (.int p3), .val (.int p4), .unset, .unset] [])) t → Steps p.tables e below (s₁.setTop (entryFrame m #[(.int p0), (.int p1), (.int p2), (.int p3), (.int p4)] 7)) t := fun t k => castTop (ef_HA m p0 p1 p2 p3 p4) k
  obtain ⟨_, _, ⟨T1, L1, k1, n1⟩, -, X1, ⟨Lc1, hQ1, l1, y1, z1⟩, st1⟩ := Jvm.LawKit.callS X0 hx (y := (⟨"com/example/libforeword/libforeword/tree/Slice", "hashStep", "(JI)J"⟩ : MethodName)) hown (mvT hZ (hw _ (List.mem_of_getElem? (i := 45) rfl))) (mvT hZ (hw _ (List.mem_of_getElem? (i := 46) rfl))) (mvT hZ (hw _ (List.mem_of_getElem? (i := 47) rfl))) (mvT hZ (hw _ (List.mem_of_getElem? (i := 48) rfl))) (by decide) (backOf (W := 0) (rmHS l Z a0 hw [] (0 : Int64) p0 h0 n0 Z0 ) hZ (hw _ (List.mem_of_getElem? (i := 48) rfl)) (hw _ (List.mem_of_getElem? (i := 47) rfl)) (by decide) (by decide)) (g := (mkF m 2 #[.val (.int p0), .val (.int p1), .val (.int p2), .val (.int p3), .val (.int p4), .unset, .unset] [(.int p0), (.long (0 : Int64))])) rfl (by rw [hml]; rfl) (argsL := [(.long (0 : Int64)), (.int p0)]) (rest := []) (lenOf pd_2 rfl) rfl (by show 2 * 0 + _ ≤ _; exact Nat.le_of_eq rfl) (hb hby dHA_2) (fun _ _ => ⟨rfl, e0, (by decide : 0 + 0 ≤ _), (by decide : 0 + 0 ≤ _)⟩)
  dsimp only [Pt.U, Pt.locs, Pt.cells, Pt.slots] at X1 l1 y1 z1 st1 hQ1
  subst l1 y1 z1
  obtain ⟨rfl, N1q, e1⟩ := hQ1
  have N1 := Fr.app N0 N1q
  obtain ⟨_, _, ⟨T2, L2, k2, n2⟩, -, X2, ⟨Lc2, hQ2, l2, y2, z2⟩, st2⟩ := Jvm.LawKit.callS X1 hx (y := (⟨"com/example/libforeword/libforeword/tree/Slice", "hashStep", "(JI)J"⟩ : MethodName)) hown (mvT hZ (hw _ (List.mem_of_getElem? (i := 45) rfl))) (mvT hZ (hw _ (List.mem_of_getElem? (i := 46) rfl))) (mvT hZ (hw _ (List.mem_of_getElem? (i := 47) rfl))) (mvT hZ (hw _ (List.mem_of_getElem? (i := 48) rfl))) (by decide) (backOf (W := 0) (rmHS l Z a0 hw [] (stepH (0 : Int64) p0) p1 h0 n0 Z0 ) hZ (hw _ (List.mem_of_getElem? (i := 48) rfl)) (hw _ (List.mem_of_getElem? (i := 47) rfl)) (by decide) (by decide)) (g := (mkF m 10 #[.val (.int p0), .val (.int p1), .val (.int p2), .val (.int p3), .val (.int p4), .val (.long (stepH (0 : Int64) p0)), .second] [(.int p1), (.long (stepH (0 : Int64) p0))])) rfl (by rw [hml]; rfl) (argsL := [(.long (stepH (0 : Int64) p0)), (.int p1)]) (rest := []) (lenOf pd_2 rfl) rfl (by show 2 * 0 + _ ≤ _; exact Nat.le_of_eq rfl) (hb hby dHA_10) (fun _ _ => ⟨rfl, e1, (by decide : 0 + 0 ≤ _), (by decide : 0 + 0 ≤ _)⟩)
  dsimp only [Pt.U, Pt.locs, Pt.cells, Pt.slots] at X2 l2 y2 z2 st2 hQ2
  subst l2 y2 z2
  obtain ⟨rfl, N2q, e2⟩ := hQ2
  have N2 := Fr.app N1 N2q
  obtain ⟨_, _, ⟨T3, L3, k3, n3⟩, -, X3, ⟨Lc3, hQ3, l3, y3, z3⟩, st3⟩ := Jvm.LawKit.callS X2 hx (y := (⟨"com/example/libforeword/libforeword/tree/Slice", "hashStep", "(JI)J"⟩ : MethodName)) hown (mvT hZ (hw _ (List.mem_of_getElem? (i := 45) rfl))) (mvT hZ (hw _ (List.mem_of_getElem? (i := 46) rfl))) (mvT hZ (hw _ (List.mem_of_getElem? (i := 47) rfl))) (mvT hZ (hw _ (List.mem_of_getElem? (i := 48) rfl))) (by decide) (backOf (W := 0) (rmHS l Z a0 hw [] (stepH (stepH (0 : Int64) p0) p1) p2 h0 n0 Z0 ) hZ (hw _ (List.mem_of_getElem? (i := 48) rfl)) (hw _ (List.mem_of_getElem? (i := 47) rfl)) (by decide) (by decide)) (g := (mkF m 18 #[.val (.int p0), .val (.int p1), .val (.int p2), .val (.int p3), .val (.int p4), .val (.long (stepH (stepH (0 : Int64) p0) p1)), .second] [(.int p2), (.long (stepH (stepH (0 : Int64) p0) p1))])) rfl (by rw [hml]; rfl) (argsL := [(.long (stepH (stepH (0 : Int64) p0) p1)), (.int p2)]) (rest := []) (lenOf pd_2 rfl) rfl (by show 2 * 0 + _ ≤ _; exact Nat.le_of_eq rfl) (hb hby dHA_18) (fun _ _ => ⟨rfl, e2, (by decide : 0 + 0 ≤ _), (by decide : 0 + 0 ≤ _)⟩)
  dsimp only [Pt.U, Pt.locs, Pt.cells, Pt.slots] at X3 l3 y3 z3 st3 hQ3
  subst l3 y3 z3
  obtain ⟨rfl, N3q, e3⟩ := hQ3
  have N3 := Fr.app N2 N3q
  obtain ⟨_, _, ⟨T4, L4, k4, n4⟩, -, X4, ⟨Lc4, hQ4, l4, y4, z4⟩, st4⟩ := Jvm.LawKit.callS X3 hx (y := (⟨"com/example/libforeword/libforeword/tree/Slice", "hashStep", "(JI)J"⟩ : MethodName)) hown (mvT hZ (hw _ (List.mem_of_getElem? (i := 45) rfl))) (mvT hZ (hw _ (List.mem_of_getElem? (i := 46) rfl))) (mvT hZ (hw _ (List.mem_of_getElem? (i := 47) rfl))) (mvT hZ (hw _ (List.mem_of_getElem? (i := 48) rfl))) (by decide) (backOf (W := 0) (rmHS l Z a0 hw [] (stepH (stepH (stepH (0 : Int64) p0) p1) p2) p3 h0 n0 Z0 ) hZ (hw _ (List.mem_of_getElem? (i := 48) rfl)) (hw _ (List.mem_of_getElem? (i := 47) rfl)) (by decide) (by decide)) (g := (mkF m 26 #[.val (.int p0), .val (.int p1), .val (.int p2), .val (.int p3), .val (.int p4), .val (.long (stepH (stepH (stepH (0 : Int64) p0) p1) p2)), .second] [(.int p3), (.long (stepH (stepH (stepH (0 : Int64) p0) p1) p2))])) rfl (by rw [hml]; rfl) (argsL := [(.long (stepH (stepH (stepH (0 : Int64) p0) p1) p2)), (.int p3)]) (rest := []) (lenOf pd_2 rfl) rfl (by show 2 * 0 + _ ≤ _; exact Nat.le_of_eq rfl) (hb hby dHA_26) (fun _ _ => ⟨rfl, e3, (by decide : 0 + 0 ≤ _), (by decide : 0 + 0 ≤ _)⟩)
  dsimp only [Pt.U, Pt.locs, Pt.cells, Pt.slots] at X4 l4 y4 z4 st4 hQ4
  subst l4 y4 z4
  obtain ⟨rfl, N4q, e4⟩ := hQ4
  have N4 := Fr.app N3 N4q
  obtain ⟨_, _, ⟨T5, L5, k5, n5⟩, -, X5, ⟨Lc5, hQ5, l5, y5, z5⟩, st5⟩ := Jvm.LawKit.callS X4 hx (y := (⟨"com/example/libforeword/libforeword/tree/Slice", "hashStep", "(JI)J"⟩ : MethodName)) hown (mvT hZ (hw _ (List.mem_of_getElem? (i := 45) rfl))) (mvT hZ (hw _ (List.mem_of_getElem? (i := 46) rfl))) (mvT hZ (hw _ (List.mem_of_getElem? (i := 47) rfl))) (mvT hZ (hw _ (List.mem_of_getElem? (i := 48) rfl))) (by decide) (backOf (W := 0) (rmHS l Z a0 hw [] (stepH (stepH (stepH (stepH (0 : Int64) p0) p1) p2) p3) p4 h0 n0 Z0 ) hZ (hw _ (List.mem_of_getElem? (i := 48) rfl)) (hw _ (List.mem_of_getElem? (i := 47) rfl)) (by decide) (by decide)) (g := (mkF m 35 #[.val (.int p0), .val (.int p1), .val (.int p2), .val (.int p3), .val (.int p4), .val (.long (stepH (stepH (stepH (stepH (0 : Int64) p0) p1) p2) p3)), .second] [(.int p4), (.long (stepH (stepH (stepH (stepH (0 : Int64) p0) p1) p2) p3))])) rfl (by rw [hml]; rfl) (argsL := [(.long (stepH (stepH (stepH (stepH (0 : Int64) p0) p1) p2) p3)), (.int p4)]) (rest := []) (lenOf pd_2 rfl) rfl (by show 2 * 0 + _ ≤ _; exact Nat.le_of_eq rfl) (hb hby dHA_35) (fun _ _ => ⟨rfl, e4, (by decide : 0 + 0 ≤ _), (by decide : 0 + 0 ≤ _)⟩)
  dsimp only [Pt.U, Pt.locs, Pt.cells, Pt.slots] at X5 l5 y5 z5 st5 hQ5
  subst l5 y5 z5
  obtain ⟨rfl, N5q, e5⟩ := hQ5
  have N5 := Fr.app N4 N5q
  obtain ⟨fs, hr, hrun, hended, hW, hsame⟩ := X5.leave (v := some (.int ((((stepH (stepH (stepH (stepH (stepH (0 : Int64) p0) p1) p2) p3) p4).toUInt64 >>> ((32 : Int32) &&& 0x3f).toInt64.toUInt64).toInt64).toInt32))) (fun h => by rw [Bd.returns] at h; cases h)
  refine ⟨_, _, pre0 _ ?_, hrun, hended, _, _, rfl, ?_, ⟨_, rfl⟩, hW, hsame.mono (by decide) (by decide)⟩
  · show Steps p.tables e below (s₁.setTop (mkF m 0 #[.val (.int p0), .val (.int p1), .val (.int p2), .val (.int p3), .val (.int p4), .unset, .unset] [])) _
    refine XS.lconst X0.here hx rfl (hb hby dHA_0) ?_
    show Steps p.tables e below (s₁.setTop (mkF m 1 #[.val (.int p0), .val (.int p1), .val (.int p2), .val (.int p3), .val (.int p4), .unset, .unset] [(.long (0 : Int64))])) _
    refine XS.iloadN X0.here hx rfl (hb hby dHA_1) rfl ?_
    show Steps p.tables e below (s₁.setTop (mkF m 2 #[.val (.int p0), .val (.int p1), .val (.int p2), .val (.int p3), .val (.int p4), .unset, .unset] [(.int p0), (.long (0 : Int64))])) _
    refine st1 _ ?_
    show Steps p.tables e below (T1.setTop (mkF m 5 #[.val (.int p0), .val (.int p1), .val (.int p2), .val (.int p3), .val (.int p4), .unset, .unset] [(.long (stepH (0 : Int64) p0))])) _
    refine XS.lstore X1.here hx rfl (hb hby dHA_5) rfl (l' := #[.val (.int p0), .val (.int p1), .val (.int p2), .val (.int p3), .val (.int p4), .val (.long (stepH (0 : Int64) p0)), .second]) rfl ?_
    show Steps p.tables e below (T1.setTop (mkF m 7 #[.val (.int p0), .val (.int p1), .val (.int p2), .val (.int p3), .val (.int p4), .val (.long (stepH (0 : Int64) p0)), .second] [])) _
    refine XS.lload X1.here hx rfl (hb hby dHA_7) rfl ?_
    show Steps p.tables e below (T1.setTop (mkF m 9 #[.val (.int p0), .val (.int p1), .val (.int p2), .val (.int p3), .val (.int p4), .val (.long (stepH (0 : Int64) p0)), .second] [(.long (stepH (0 : Int64) p0))])) _
    refine XS.iloadN X1.here hx rfl (hb hby dHA_9) rfl ?_
    show Steps p.tables e below (T1.setTop (mkF m 10 #[.val (.int p0), .val (.int p1), .val (.int p2), .val (.int p3), .val (.int p4), .val (.long (stepH (0 : Int64) p0)), .second] [(.int p1), (.long (stepH (0 : Int64) p0))])) _
    refine st2 _ ?_
    show Steps p.tables e below (T2.setTop (mkF m 13 #[.val (.int p0), .val (.int p1), .val (.int p2), .val (.int p3), .val (.int p4), .val (.long (stepH (0 : Int64) p0)), .second] [(.long (stepH (stepH (0 : Int64) p0) p1))])) _
    refine XS.lstore X2.here hx rfl (hb hby dHA_13) rfl (l' := #[.val (.int p0), .val (.int p1), .val (.int p2), .val (.int p3), .val (.int p4), .val (.long (stepH (stepH (0 : Int64) p0) p1)), .second]) rfl ?_
    show Steps p.tables e below (T2.setTop (mkF m 15 #[.val (.int p0), .val (.int p1), .val (.int p2), .val (.int p3), .val (.int p4), .val (.long (stepH (stepH (0 : Int64) p0) p1)), .second] [])) _
    refine XS.lload X2.here hx rfl (hb hby dHA_15) rfl ?_
    show Steps p.tables e below (T2.setTop (mkF m 17 #[.val (.int p0), .val (.int p1), .val (.int p2), .val (.int p3), .val (.int p4), .val (.long (stepH (stepH (0 : Int64) p0) p1)), .second] [(.long (stepH (stepH (0 : Int64) p0) p1))])) _
    refine XS.iloadN X2.here hx rfl (hb hby dHA_17) rfl ?_
    show Steps p.tables e below (T2.setTop (mkF m 18 #[.val (.int p0), .val (.int p1), .val (.int p2), .val (.int p3), .val (.int p4), .val (.long (stepH (stepH (0 : Int64) p0) p1)), .second] [(.int p2), (.long (stepH (stepH (0 : Int64) p0) p1))])) _
    refine st3 _ ?_
    show Steps p.tables e below (T3.setTop (mkF m 21 #[.val (.int p0), .val (.int p1), .val (.int p2), .val (.int p3), .val (.int p4), .val (.long (stepH (stepH (0 : Int64) p0) p1)), .second] [(.long (stepH (stepH (stepH (0 : Int64) p0) p1) p2))])) _
    refine XS.lstore X3.here hx rfl (hb hby dHA_21) rfl (l' := #[.val (.int p0), .val (.int p1), .val (.int p2), .val (.int p3), .val (.int p4), .val (.long (stepH (stepH (stepH (0 : Int64) p0) p1) p2)), .second]) rfl ?_
    show Steps p.tables e below (T3.setTop (mkF m 23 #[.val (.int p0), .val (.int p1), .val (.int p2), .val (.int p3), .val (.int p4), .val (.long (stepH (stepH (stepH (0 : Int64) p0) p1) p2)), .second] [])) _
    refine XS.lload X3.here hx rfl (hb hby dHA_23) rfl ?_
    show Steps p.tables e below (T3.setTop (mkF m 25 #[.val (.int p0), .val (.int p1), .val (.int p2), .val (.int p3), .val (.int p4), .val (.long (stepH (stepH (stepH (0 : Int64) p0) p1) p2)), .second] [(.long (stepH (stepH (stepH (0 : Int64) p0) p1) p2))])) _
    refine XS.iloadN X3.here hx rfl (hb hby dHA_25) rfl ?_
    show Steps p.tables e below (T3.setTop (mkF m 26 #[.val (.int p0), .val (.int p1), .val (.int p2), .val (.int p3), .val (.int p4), .val (.long (stepH (stepH (stepH (0 : Int64) p0) p1) p2)), .second] [(.int p3), (.long (stepH (stepH (stepH (0 : Int64) p0) p1) p2))])) _
    refine st4 _ ?_
    show Steps p.tables e below (T4.setTop (mkF m 29 #[.val (.int p0), .val (.int p1), .val (.int p2), .val (.int p3), .val (.int p4), .val (.long (stepH (stepH (stepH (0 : Int64) p0) p1) p2)), .second] [(.long (stepH (stepH (stepH (stepH (0 : Int64) p0) p1) p2) p3))])) _
    refine XS.lstore X4.here hx rfl (hb hby dHA_29) rfl (l' := #[.val (.int p0), .val (.int p1), .val (.int p2), .val (.int p3), .val (.int p4), .val (.long (stepH (stepH (stepH (stepH (0 : Int64) p0) p1) p2) p3)), .second]) rfl ?_
    show Steps p.tables e below (T4.setTop (mkF m 31 #[.val (.int p0), .val (.int p1), .val (.int p2), .val (.int p3), .val (.int p4), .val (.long (stepH (stepH (stepH (stepH (0 : Int64) p0) p1) p2) p3)), .second] [])) _
    refine XS.lload X4.here hx rfl (hb hby dHA_31) rfl ?_
    show Steps p.tables e below (T4.setTop (mkF m 33 #[.val (.int p0), .val (.int p1), .val (.int p2), .val (.int p3), .val (.int p4), .val (.long (stepH (stepH (stepH (stepH (0 : Int64) p0) p1) p2) p3)), .second] [(.long (stepH (stepH (stepH (stepH (0 : Int64) p0) p1) p2) p3))])) _
    refine XS.iload X4.here hx rfl (hb hby dHA_33) rfl ?_
    show Steps p.tables e below (T4.setTop (mkF m 35 #[.val (.int p0), .val (.int p1), .val (.int p2), .val (.int p3), .val (.int p4), .val (.long (stepH (stepH (stepH (stepH (0 : Int64) p0) p1) p2) p3)), .second] [(.int p4), (.long (stepH (stepH (stepH (stepH (0 : Int64) p0) p1) p2) p3))])) _
    refine st5 _ ?_
    show Steps p.tables e below (T5.setTop (mkF m 38 #[.val (.int p0), .val (.int p1), .val (.int p2), .val (.int p3), .val (.int p4), .val (.long (stepH (stepH (stepH (stepH (0 : Int64) p0) p1) p2) p3)), .second] [(.long (stepH (stepH (stepH (stepH (stepH (0 : Int64) p0) p1) p2) p3) p4))])) _
    refine XS.lstore X5.here hx rfl (hb hby dHA_38) rfl (l' := #[.val (.int p0), .val (.int p1), .val (.int p2), .val (.int p3), .val (.int p4), .val (.long (stepH (stepH (stepH (stepH (stepH (0 : Int64) p0) p1) p2) p3) p4)), .second]) rfl ?_
    show Steps p.tables e below (T5.setTop (mkF m 40 #[.val (.int p0), .val (.int p1), .val (.int p2), .val (.int p3), .val (.int p4), .val (.long (stepH (stepH (stepH (stepH (stepH (0 : Int64) p0) p1) p2) p3) p4)), .second] [])) _
    refine XS.lload X5.here hx rfl (hb hby dHA_40) rfl ?_
    show Steps p.tables e below (T5.setTop (mkF m 42 #[.val (.int p0), .val (.int p1), .val (.int p2), .val (.int p3), .val (.int p4), .val (.long (stepH (stepH (stepH (stepH (stepH (0 : Int64) p0) p1) p2) p3) p4)), .second] [(.long (stepH (stepH (stepH (stepH (stepH (0 : Int64) p0) p1) p2) p3) p4))])) _
    refine XS.bipush X5.here hx rfl (hb hby dHA_42) ?_
    show Steps p.tables e below (T5.setTop (mkF m 44 #[.val (.int p0), .val (.int p1), .val (.int p2), .val (.int p3), .val (.int p4), .val (.long (stepH (stepH (stepH (stepH (stepH (0 : Int64) p0) p1) p2) p3) p4)), .second] [(.int (32 : Int32)), (.long (stepH (stepH (stepH (stepH (stepH (0 : Int64) p0) p1) p2) p3) p4))])) _
    refine XS.lushr X5.here hx rfl (hb hby dHA_44) rfl ?_
    show Steps p.tables e below (T5.setTop (mkF m 45 #[.val (.int p0), .val (.int p1), .val (.int p2), .val (.int p3), .val (.int p4), .val (.long (stepH (stepH (stepH (stepH (stepH (0 : Int64) p0) p1) p2) p3) p4)), .second] [(.long (((stepH (stepH (stepH (stepH (stepH (0 : Int64) p0) p1) p2) p3) p4).toUInt64 >>> ((32 : Int32) &&& 0x3f).toInt64.toUInt64).toInt64))])) _
    refine XS.l2i X5.here hx rfl (hb hby dHA_45) rfl ?_
    show Steps p.tables e below (T5.setTop (mkF m 46 #[.val (.int p0), .val (.int p1), .val (.int p2), .val (.int p3), .val (.int p4), .val (.long (stepH (stepH (stepH (stepH (stepH (0 : Int64) p0) p1) p2) p3) p4)), .second] [(.int ((((stepH (stepH (stepH (stepH (stepH (0 : Int64) p0) p1) p2) p3) p4).toUInt64 >>> ((32 : Int32) &&& 0x3f).toInt64.toUInt64).toInt64).toInt32))])) _
    exact retI X5 hx Bd.returns (hb hby dHA_46) hr
  · show QHA p0 p1 p2 p3 p4 h0 n0 _ T5.heap _
    rw [e5]
    exact ⟨rfl, N5, rfl⟩
theorem dHO_0 : decode prog_22_method_5_code 0 = .ok (.aload_n 0, 1) := by decide +kernel
theorem dHO_1 : decode prog_22_method_5_code 1 = .ok (.getfield 7, 3) := by decide +kernel
theorem dHO_4 : decode prog_22_method_5_code 4 = .ok (.iload_n 1, 1) := by decide +kernel
theorem dHO_5 : decode prog_22_method_5_code 5 = .ok (.iaload, 1) := by decide +kernel
theorem dHO_6 : decode prog_22_method_5_code 6 = .ok (.iload_n 2, 1) := by decide +kernel
theorem dHO_7 : decode prog_22_method_5_code 7 = .ok (.if_icmp .ne 50, 3) := by decide +kernel
theorem dHO_10 : decode prog_22_method_5_code 10 = .ok (.aload_n 0, 1) := by decide +kernel
theorem dHO_11 : decode prog_22_method_5_code 11 = .ok (.getfield 13, 3) := by decide +kernel
theorem dHO_14 : decode prog_22_method_5_code 14 = .ok (.iload_n 1, 1) := by decide +kernel
theorem dHO_15 : decode prog_22_method_5_code 15 = .ok (.iaload, 1) := by decide +kernel
theorem dHO_16 : decode prog_22_method_5_code 16 = .ok (.iload_n 3, 1) := by decide +kernel
theorem dHO_17 : decode prog_22_method_5_code 17 = .ok (.if_icmp .ne 40, 3) := by decide +kernel
theorem dHO_20 : decode prog_22_method_5_code 20 = .ok (.aload_n 0, 1) := by decide +kernel
theorem dHO_21 : decode prog_22_method_5_code 21 = .ok (.getfield 16, 3) := by decide +kernel
theorem dHO_24 : decode prog_22_method_5_code 24 = .ok (.iload_n 1, 1) := by decide +kernel
theorem dHO_25 : decode prog_22_method_5_code 25 = .ok (.iaload, 1) := by decide +kernel
theorem dHO_26 : decode prog_22_method_5_code 26 = .ok (.iload 4, 2) := by decide +kernel
theorem dHO_28 : decode prog_22_method_5_code 28 = .ok (.if_icmp .ne 29, 3) := by decide +kernel
theorem dHO_31 : decode prog_22_method_5_code 31 = .ok (.aload_n 0, 1) := by decide +kernel
theorem dHO_32 : decode prog_22_method_5_code 32 = .ok (.getfield 19, 3) := by decide +kernel
theorem dHO_35 : decode prog_22_method_5_code 35 = .ok (.iload_n 1, 1) := by decide +kernel
theorem dHO_36 : decode prog_22_method_5_code 36 = .ok (.iaload, 1) := by decide +kernel
theorem dHO_37 : decode prog_22_method_5_code 37 = .ok (.iload 5, 2) := by decide +kernel
theorem dHO_39 : decode prog_22_method_5_code 39 = .ok (.if_icmp .ne 18, 3) := by decide +kernel
theorem dHO_42 : decode prog_22_method_5_code 42 = .ok (.aload_n 0, 1) := by decide +kernel
theorem dHO_43 : decode prog_22_method_5_code 43 = .ok (.getfield 22, 3) := by decide +kernel
theorem dHO_46 : decode prog_22_method_5_code 46 = .ok (.iload_n 1, 1) := by decide +kernel
theorem dHO_47 : decode prog_22_method_5_code 47 = .ok (.iaload, 1) := by decide +kernel
theorem dHO_48 : decode prog_22_method_5_code 48 = .ok (.iload 6, 2) := by decide +kernel
theorem dHO_50 : decode prog_22_method_5_code 50 = .ok (.if_icmp .ne 7, 3) := by decide +kernel
theorem dHO_53 : decode prog_22_method_5_code 53 = .ok (.iconst 1, 1) := by decide +kernel
theorem dHO_54 : decode prog_22_method_5_code 54 = .ok (.goto 4, 3) := by decide +kernel
theorem dHO_57 : decode prog_22_method_5_code 57 = .ok (.iconst 0, 1) := by decide +kernel
theorem dHO_58 : decode prog_22_method_5_code 58 = .ok (.ireturn, 1) := by decide +kernel
theorem ef_HO (m : MethodId) (o0 : Addr) (p1 : Int32) (p2 : Int32) (p3 : Int32) (p4 : Int32) (p5 : Int32) (p6 : Int32) : entryFrame m #[(.ref o0), (.int p1), (.int p2), (.int p3), (.int p4), (.int p5), (.int p6)] 7 = mkF m 0 #[.val (.ref o0), .val (.int p1), .val (.int p2), .val (.int p3), .val (.int p4), .val (.int p5), .val (.int p6)] [] := by first | (simp [entryFrame, mkF, argsToLocals, Value.category]; done) | rfl
def QHO (st : NSt) (p1 p2 p3 p4 p5 p6 : Int32) (h0 : Heap) (n0 : Nat) (v : Option Value) (h : Heap) (L : List Loc) : Prop := v = some (.int (holdsV st p1 p2 p3 p4 p5 p6)) ∧ Fr n0 L ∧ h = h0
set_option maxRecDepth 65536 in
set_option maxHeartbeats 40000000 in
theorem rmHO (l : Launch) (Z : State) (a0 : Array Value) (hw : ∀ d ∈ tables_1, d.before a0 Z = true) (ws : List Jvm.Cond) (o0 cp fr lo eq hi sl : Addr) (st : NSt) (p1 p2 p3 p4 p5 p6 : Int32) (h0 : Heap) (n0 : Nat) (Z0 : n0 ≤ h0.size) (hNS : NS Z h0 n0 o0 cp fr lo eq hi sl st) (hD : Dist o0 cp fr lo eq hi sl) (hin : ¬ p1 < 0 ∧ p1 < (64 : Int32)) :
    MetFree l (⟨"com/example/libforeword/libforeword/tree/NodeStore", "holds", "(IIIIII)Z"⟩ : MethodName) (head1 (Jvm.Cond.code (⟨"com/example/libforeword/libforeword/tree/NodeStore", "holds", "(IIIIII)Z"⟩ : MethodName) prog_22_method_5_code 7 (some .boolean) :: ws) ({ frames := 0, cells := 0, slots := 0, locals := 0 } : Room)) (fun a U => a = #[(.ref o0), (.int p1), (.int p2), (.int p3), (.int p4), (.int p5), (.int p6)] ∧ Z.Warmed39 U.vm ∧ U.heap = h0) (fun _ _ _ _ _ => True) (fun _ U o U' => ∃ v L, o = .returned v ∧ QHO st p1 p2 p3 p4 p5 p6 h0 n0 v U'.heap L ∧ FrameEnd U o U' L ({ frames := 0, cells := 0, slots := 0, locals := 0 } : Room).cells ({ frames := 0, cells := 0, slots := 0, locals := 0 } : Room).slots) := by
  refine MetFree.of_bodySF (plainFor_of_name pn_1) hisR ?_
  intro p e s m args below meth c s₁ Bd hml0 hP hK
  obtain ⟨rfl, hZ, hh⟩ := hP
  have hx := Bd.exec
  have hby := Bd.bytes
  have hml : c.maxLocals = 7 := hml0
  have hown : s.vm.findClass "com/example/libforeword/libforeword/tree/NodeStore" = some m.cls := findClass_of_methodNamed Bd.named
  have hnm := (name_of_methodNamed Bd.named Bd.method).1
  have X0 : Stand p l e ({ frames := 0, cells := 0, slots := 0, locals := 0 } : Room) s m #[(.ref o0), (.int p1), (.int p2), (.int p3), (.int p4), (.int p5), (.int p6)] below meth c s₁ [] 0 0 := Stand.of_body Bd
  have e0 : s₁.heap = h0 := by rw [← hh, Bd.state]; rfl
  have N0 := Fr.nil n0
  have pre0 : ∀ t, Steps p.tables e below (s₁.setTop (mkF m 0 #[.val (.ref o0), .val (.int p1), .val (.int p2), .val (.int p3), .val (.int p4), .val (.int p5), .val (.int p6)] [])) t → Steps p.tables e below (s₁.setTop (entryFrame m #[(.ref o0), (.int p1), (.int p2), (.int p3), (.int p4), (.int p5), (.int p6)] 7)) t := fun t k => castTop (ef_HO m o0 p1 p2 p3 p4 p5 p6) k
  obtain ⟨E_o0, F_cp, F_fr, F_lo, F_eq, F_hi, F_sl, F_size, A_cp, A_fr, A_lo, A_eq, A_hi, A_sl, g_o0, g_cp, g_fr, g_lo, g_eq, g_hi, g_sl⟩ := hNS
  obtain ⟨ne_o0_cp, ne_o0_fr, ne_o0_lo, ne_o0_eq, ne_o0_hi, ne_o0_sl, ne_cp_fr, ne_cp_lo, ne_cp_eq, ne_cp_hi, ne_cp_sl, ne_fr_lo, ne_fr_eq, ne_fr_hi, ne_fr_sl, ne_lo_eq, ne_lo_hi, ne_lo_sl, ne_eq_hi, ne_eq_sl, ne_hi_sl⟩ := hD
  obtain ⟨T1, X1, e1, st1⟩ := getF X0 hx hZ hown (host := "") (Or.inl (hw _ (List.mem_of_getElem? (i := 10) rfl))) Via.refl e0 F_cp (g := (mkF m 1 #[.val (.ref o0), .val (.int p1), .val (.int p2), .val (.int p3), .val (.int p4), .val (.int p5), .val (.int p6)] [(.ref o0)])) rfl rfl (hb hby dHO_1)
  obtain ⟨cl2, Ar2, S2, Nn2, Hh2⟩ := id A_cp
  have ib2 : ¬ (p1) < 0 ∧ (p1) < (64 : Int32) := hin
  have pre3 : ∀ t, Steps p.tables e below (T1.setTop (mkF m 7 #[.val (.ref o0), .val (.int p1), .val (.int p2), .val (.int p3), .val (.int p4), .val (.int p5), .val (.int p6)] [(.int p2), (.int ((cpS st) p1))])) t → Steps p.tables e below (s₁.setTop (entryFrame m #[(.ref o0), (.int p1), (.int p2), (.int p3), (.int p4), (.int p5), (.int p6)] 7)) t := fun t kt => pre0 t (by
      show Steps p.tables e below (s₁.setTop (mkF m 0 #[.val (.ref o0), .val (.int p1), .val (.int p2), .val (.int p3), .val (.int p4), .val (.int p5), .val (.int p6)] [])) _
      refine XS.aloadN X0.here hx rfl (hb hby dHO_0) rfl rfl ?_
      show Steps p.tables e below (s₁.setTop (mkF m 1 #[.val (.ref o0), .val (.int p1), .val (.int p2), .val (.int p3), .val (.int p4), .val (.int p5), .val (.int p6)] [(.ref o0)])) _
      refine st1 _ ?_
      show Steps p.tables e below (T1.setTop (mkF m 4 #[.val (.ref o0), .val (.int p1), .val (.int p2), .val (.int p3), .val (.int p4), .val (.int p5), .val (.int p6)] [(.ref cp)])) _
      refine XS.iloadN X1.here hx rfl (hb hby dHO_4) rfl ?_
      show Steps p.tables e below (T1.setTop (mkF m 5 #[.val (.ref o0), .val (.int p1), .val (.int p2), .val (.int p3), .val (.int p4), .val (.int p5), .val (.int p6)] [(.int p1), (.ref cp)])) _
      refine X1.iaload hx (j := p1) (v := (.int ((cpS st) p1))) (by rw [e1]; exact Ar2.1) (State.isArrayOf_alike hZ.alike Ar2.2.1) Ar2.2.2 (inb_of S2 ib2) (Hh2 _ ib2.1 ib2.2) (g := (mkF m 5 #[.val (.ref o0), .val (.int p1), .val (.int p2), .val (.int p3), .val (.int p4), .val (.int p5), .val (.int p6)] [(.int p1), (.ref cp)])) rfl rfl (hb hby dHO_5) _ ?_
      show Steps p.tables e below (T1.setTop (mkF m 6 #[.val (.ref o0), .val (.int p1), .val (.int p2), .val (.int p3), .val (.int p4), .val (.int p5), .val (.int p6)] [(.int ((cpS st) p1))])) _
      refine XS.iloadN X1.here hx rfl (hb hby dHO_6) rfl ?_
      exact kt)
  by_cases hc7 : ((cpS st) p1) = p2
  · obtain ⟨T4, X4, e4, st4⟩ := getF X1 hx hZ hown (host := "") (Or.inl (hw _ (List.mem_of_getElem? (i := 12) rfl))) Via.refl e1 F_fr (g := (mkF m 11 #[.val (.ref o0), .val (.int p1), .val (.int p2), .val (.int p3), .val (.int p4), .val (.int p5), .val (.int p6)] [(.ref o0)])) rfl rfl (hb hby dHO_11)
    obtain ⟨cl5, Ar5, S5, Nn5, Hh5⟩ := id A_fr
    have ib5 : ¬ (p1) < 0 ∧ (p1) < (64 : Int32) := hin
    have pre6 : ∀ t, Steps p.tables e below (T4.setTop (mkF m 17 #[.val (.ref o0), .val (.int p1), .val (.int p2), .val (.int p3), .val (.int p4), .val (.int p5), .val (.int p6)] [(.int p3), (.int ((frS st) p1))])) t → Steps p.tables e below (s₁.setTop (entryFrame m #[(.ref o0), (.int p1), (.int p2), (.int p3), (.int p4), (.int p5), (.int p6)] 7)) t := fun t kt => pre3 t (by
        show Steps p.tables e below (T1.setTop (mkF m 7 #[.val (.ref o0), .val (.int p1), .val (.int p2), .val (.int p3), .val (.int p4), .val (.int p5), .val (.int p6)] [(.int p2), (.int ((cpS st) p1))])) _
        refine XS.icmpNo X1.here hx rfl (hb hby dHO_7) rfl (teq (show ((cpS st) p1) = p2 from hc7)).2 ?_
        show Steps p.tables e below (T1.setTop (mkF m 10 #[.val (.ref o0), .val (.int p1), .val (.int p2), .val (.int p3), .val (.int p4), .val (.int p5), .val (.int p6)] [])) _
        refine XS.aloadN X1.here hx rfl (hb hby dHO_10) rfl rfl ?_
        show Steps p.tables e below (T1.setTop (mkF m 11 #[.val (.ref o0), .val (.int p1), .val (.int p2), .val (.int p3), .val (.int p4), .val (.int p5), .val (.int p6)] [(.ref o0)])) _
        refine st4 _ ?_
        show Steps p.tables e below (T4.setTop (mkF m 14 #[.val (.ref o0), .val (.int p1), .val (.int p2), .val (.int p3), .val (.int p4), .val (.int p5), .val (.int p6)] [(.ref fr)])) _
        refine XS.iloadN X4.here hx rfl (hb hby dHO_14) rfl ?_
        show Steps p.tables e below (T4.setTop (mkF m 15 #[.val (.ref o0), .val (.int p1), .val (.int p2), .val (.int p3), .val (.int p4), .val (.int p5), .val (.int p6)] [(.int p1), (.ref fr)])) _
        refine X4.iaload hx (j := p1) (v := (.int ((frS st) p1))) (by rw [e4]; exact Ar5.1) (State.isArrayOf_alike hZ.alike Ar5.2.1) Ar5.2.2 (inb_of S5 ib5) (Hh5 _ ib5.1 ib5.2) (g := (mkF m 15 #[.val (.ref o0), .val (.int p1), .val (.int p2), .val (.int p3), .val (.int p4), .val (.int p5), .val (.int p6)] [(.int p1), (.ref fr)])) rfl rfl (hb hby dHO_15) _ ?_
        show Steps p.tables e below (T4.setTop (mkF m 16 #[.val (.ref o0), .val (.int p1), .val (.int p2), .val (.int p3), .val (.int p4), .val (.int p5), .val (.int p6)] [(.int ((frS st) p1))])) _
        refine XS.iloadN X4.here hx rfl (hb hby dHO_16) rfl ?_
        exact kt)
    by_cases hc17 : ((frS st) p1) = p3
    · obtain ⟨T7, X7, e7, st7⟩ := getF X4 hx hZ hown (host := "") (Or.inl (hw _ (List.mem_of_getElem? (i := 14) rfl))) Via.refl e4 F_lo (g := (mkF m 21 #[.val (.ref o0), .val (.int p1), .val (.int p2), .val (.int p3), .val (.int p4), .val (.int p5), .val (.int p6)] [(.ref o0)])) rfl rfl (hb hby dHO_21)
      obtain ⟨cl8, Ar8, S8, Nn8, Hh8⟩ := id A_lo
      have ib8 : ¬ (p1) < 0 ∧ (p1) < (64 : Int32) := hin
      have pre9 : ∀ t, Steps p.tables e below (T7.setTop (mkF m 28 #[.val (.ref o0), .val (.int p1), .val (.int p2), .val (.int p3), .val (.int p4), .val (.int p5), .val (.int p6)] [(.int p4), (.int ((loS st) p1))])) t → Steps p.tables e below (s₁.setTop (entryFrame m #[(.ref o0), (.int p1), (.int p2), (.int p3), (.int p4), (.int p5), (.int p6)] 7)) t := fun t kt => pre6 t (by
          show Steps p.tables e below (T4.setTop (mkF m 17 #[.val (.ref o0), .val (.int p1), .val (.int p2), .val (.int p3), .val (.int p4), .val (.int p5), .val (.int p6)] [(.int p3), (.int ((frS st) p1))])) _
          refine XS.icmpNo X4.here hx rfl (hb hby dHO_17) rfl (teq (show ((frS st) p1) = p3 from hc17)).2 ?_
          show Steps p.tables e below (T4.setTop (mkF m 20 #[.val (.ref o0), .val (.int p1), .val (.int p2), .val (.int p3), .val (.int p4), .val (.int p5), .val (.int p6)] [])) _
          refine XS.aloadN X4.here hx rfl (hb hby dHO_20) rfl rfl ?_
          show Steps p.tables e below (T4.setTop (mkF m 21 #[.val (.ref o0), .val (.int p1), .val (.int p2), .val (.int p3), .val (.int p4), .val (.int p5), .val (.int p6)] [(.ref o0)])) _
          refine st7 _ ?_
          show Steps p.tables e below (T7.setTop (mkF m 24 #[.val (.ref o0), .val (.int p1), .val (.int p2), .val (.int p3), .val (.int p4), .val (.int p5), .val (.int p6)] [(.ref lo)])) _
          refine XS.iloadN X7.here hx rfl (hb hby dHO_24) rfl ?_
          show Steps p.tables e below (T7.setTop (mkF m 25 #[.val (.ref o0), .val (.int p1), .val (.int p2), .val (.int p3), .val (.int p4), .val (.int p5), .val (.int p6)] [(.int p1), (.ref lo)])) _
          refine X7.iaload hx (j := p1) (v := (.int ((loS st) p1))) (by rw [e7]; exact Ar8.1) (State.isArrayOf_alike hZ.alike Ar8.2.1) Ar8.2.2 (inb_of S8 ib8) (Hh8 _ ib8.1 ib8.2) (g := (mkF m 25 #[.val (.ref o0), .val (.int p1), .val (.int p2), .val (.int p3), .val (.int p4), .val (.int p5), .val (.int p6)] [(.int p1), (.ref lo)])) rfl rfl (hb hby dHO_25) _ ?_
          show Steps p.tables e below (T7.setTop (mkF m 26 #[.val (.ref o0), .val (.int p1), .val (.int p2), .val (.int p3), .val (.int p4), .val (.int p5), .val (.int p6)] [(.int ((loS st) p1))])) _
          refine XS.iload X7.here hx rfl (hb hby dHO_26) rfl ?_
          exact kt)
      by_cases hc28 : ((loS st) p1) = p4
      · obtain ⟨T10, X10, e10, st10⟩ := getF X7 hx hZ hown (host := "") (Or.inl (hw _ (List.mem_of_getElem? (i := 16) rfl))) Via.refl e7 F_eq (g := (mkF m 32 #[.val (.ref o0), .val (.int p1), .val (.int p2), .val (.int p3), .val (.int p4), .val (.int p5), .val (.int p6)] [(.ref o0)])) rfl rfl (hb hby dHO_32)
        obtain ⟨cl11, Ar11, S11, Nn11, Hh11⟩ := id A_eq
        have ib11 : ¬ (p1) < 0 ∧ (p1) < (64 : Int32) := hin
        have pre12 : ∀ t, Steps p.tables e below (T10.setTop (mkF m 39 #[.val (.ref o0), .val (.int p1), .val (.int p2), .val (.int p3), .val (.int p4), .val (.int p5), .val (.int p6)] [(.int p5), (.int ((eqS st) p1))])) t → Steps p.tables e below (s₁.setTop (entryFrame m #[(.ref o0), (.int p1), (.int p2), (.int p3), (.int p4), (.int p5), (.int p6)] 7)) t := fun t kt => pre9 t (by
            show Steps p.tables e below (T7.setTop (mkF m 28 #[.val (.ref o0), .val (.int p1), .val (.int p2), .val (.int p3), .val (.int p4), .val (.int p5), .val (.int p6)] [(.int p4), (.int ((loS st) p1))])) _
            refine XS.icmpNo X7.here hx rfl (hb hby dHO_28) rfl (teq (show ((loS st) p1) = p4 from hc28)).2 ?_
            show Steps p.tables e below (T7.setTop (mkF m 31 #[.val (.ref o0), .val (.int p1), .val (.int p2), .val (.int p3), .val (.int p4), .val (.int p5), .val (.int p6)] [])) _
            refine XS.aloadN X7.here hx rfl (hb hby dHO_31) rfl rfl ?_
            show Steps p.tables e below (T7.setTop (mkF m 32 #[.val (.ref o0), .val (.int p1), .val (.int p2), .val (.int p3), .val (.int p4), .val (.int p5), .val (.int p6)] [(.ref o0)])) _
            refine st10 _ ?_
            show Steps p.tables e below (T10.setTop (mkF m 35 #[.val (.ref o0), .val (.int p1), .val (.int p2), .val (.int p3), .val (.int p4), .val (.int p5), .val (.int p6)] [(.ref eq)])) _
            refine XS.iloadN X10.here hx rfl (hb hby dHO_35) rfl ?_
            show Steps p.tables e below (T10.setTop (mkF m 36 #[.val (.ref o0), .val (.int p1), .val (.int p2), .val (.int p3), .val (.int p4), .val (.int p5), .val (.int p6)] [(.int p1), (.ref eq)])) _
            refine X10.iaload hx (j := p1) (v := (.int ((eqS st) p1))) (by rw [e10]; exact Ar11.1) (State.isArrayOf_alike hZ.alike Ar11.2.1) Ar11.2.2 (inb_of S11 ib11) (Hh11 _ ib11.1 ib11.2) (g := (mkF m 36 #[.val (.ref o0), .val (.int p1), .val (.int p2), .val (.int p3), .val (.int p4), .val (.int p5), .val (.int p6)] [(.int p1), (.ref eq)])) rfl rfl (hb hby dHO_36) _ ?_
            show Steps p.tables e below (T10.setTop (mkF m 37 #[.val (.ref o0), .val (.int p1), .val (.int p2), .val (.int p3), .val (.int p4), .val (.int p5), .val (.int p6)] [(.int ((eqS st) p1))])) _
            refine XS.iload X10.here hx rfl (hb hby dHO_37) rfl ?_
            exact kt)
        by_cases hc39 : ((eqS st) p1) = p5
        · obtain ⟨T13, X13, e13, st13⟩ := getF X10 hx hZ hown (host := "") (Or.inl (hw _ (List.mem_of_getElem? (i := 18) rfl))) Via.refl e10 F_hi (g := (mkF m 43 #[.val (.ref o0), .val (.int p1), .val (.int p2), .val (.int p3), .val (.int p4), .val (.int p5), .val (.int p6)] [(.ref o0)])) rfl rfl (hb hby dHO_43)
          obtain ⟨cl14, Ar14, S14, Nn14, Hh14⟩ := id A_hi
          have ib14 : ¬ (p1) < 0 ∧ (p1) < (64 : Int32) := hin
          have pre15 : ∀ t, Steps p.tables e below (T13.setTop (mkF m 50 #[.val (.ref o0), .val (.int p1), .val (.int p2), .val (.int p3), .val (.int p4), .val (.int p5), .val (.int p6)] [(.int p6), (.int ((hiS st) p1))])) t → Steps p.tables e below (s₁.setTop (entryFrame m #[(.ref o0), (.int p1), (.int p2), (.int p3), (.int p4), (.int p5), (.int p6)] 7)) t := fun t kt => pre12 t (by
              show Steps p.tables e below (T10.setTop (mkF m 39 #[.val (.ref o0), .val (.int p1), .val (.int p2), .val (.int p3), .val (.int p4), .val (.int p5), .val (.int p6)] [(.int p5), (.int ((eqS st) p1))])) _
              refine XS.icmpNo X10.here hx rfl (hb hby dHO_39) rfl (teq (show ((eqS st) p1) = p5 from hc39)).2 ?_
              show Steps p.tables e below (T10.setTop (mkF m 42 #[.val (.ref o0), .val (.int p1), .val (.int p2), .val (.int p3), .val (.int p4), .val (.int p5), .val (.int p6)] [])) _
              refine XS.aloadN X10.here hx rfl (hb hby dHO_42) rfl rfl ?_
              show Steps p.tables e below (T10.setTop (mkF m 43 #[.val (.ref o0), .val (.int p1), .val (.int p2), .val (.int p3), .val (.int p4), .val (.int p5), .val (.int p6)] [(.ref o0)])) _
              refine st13 _ ?_
              show Steps p.tables e below (T13.setTop (mkF m 46 #[.val (.ref o0), .val (.int p1), .val (.int p2), .val (.int p3), .val (.int p4), .val (.int p5), .val (.int p6)] [(.ref hi)])) _
              refine XS.iloadN X13.here hx rfl (hb hby dHO_46) rfl ?_
              show Steps p.tables e below (T13.setTop (mkF m 47 #[.val (.ref o0), .val (.int p1), .val (.int p2), .val (.int p3), .val (.int p4), .val (.int p5), .val (.int p6)] [(.int p1), (.ref hi)])) _
              refine X13.iaload hx (j := p1) (v := (.int ((hiS st) p1))) (by rw [e13]; exact Ar14.1) (State.isArrayOf_alike hZ.alike Ar14.2.1) Ar14.2.2 (inb_of S14 ib14) (Hh14 _ ib14.1 ib14.2) (g := (mkF m 47 #[.val (.ref o0), .val (.int p1), .val (.int p2), .val (.int p3), .val (.int p4), .val (.int p5), .val (.int p6)] [(.int p1), (.ref hi)])) rfl rfl (hb hby dHO_47) _ ?_
              show Steps p.tables e below (T13.setTop (mkF m 48 #[.val (.ref o0), .val (.int p1), .val (.int p2), .val (.int p3), .val (.int p4), .val (.int p5), .val (.int p6)] [(.int ((hiS st) p1))])) _
              refine XS.iload X13.here hx rfl (hb hby dHO_48) rfl ?_
              exact kt)
          by_cases hc50 : ((hiS st) p1) = p6
          · obtain ⟨fs, hr, hrun, hended, hW, hsame⟩ := X13.leave (v := some (.int (1 : Int32))) (fun h => by rw [Bd.returns] at h; cases h)
            refine ⟨_, _, pre15 _ ?_, hrun, hended, _, _, rfl, ?_, ⟨_, rfl⟩, hW, hsame.mono (by decide) (by decide)⟩
            · show Steps p.tables e below (T13.setTop (mkF m 50 #[.val (.ref o0), .val (.int p1), .val (.int p2), .val (.int p3), .val (.int p4), .val (.int p5), .val (.int p6)] [(.int p6), (.int ((hiS st) p1))])) _
              refine XS.icmpNo X13.here hx rfl (hb hby dHO_50) rfl (teq (show ((hiS st) p1) = p6 from hc50)).2 ?_
              show Steps p.tables e below (T13.setTop (mkF m 53 #[.val (.ref o0), .val (.int p1), .val (.int p2), .val (.int p3), .val (.int p4), .val (.int p5), .val (.int p6)] [])) _
              refine XS.iconst X13.here hx rfl (hb hby dHO_53) ?_
              show Steps p.tables e below (T13.setTop (mkF m 54 #[.val (.ref o0), .val (.int p1), .val (.int p2), .val (.int p3), .val (.int p4), .val (.int p5), .val (.int p6)] [(.int (1 : Int32))])) _
              refine XS.goto X13.here hx rfl (pc0 := 54) (pc' := 58) rfl (hb hby dHO_54) (by decide) (by decide) ?_
              show Steps p.tables e below (T13.setTop (mkF m 58 #[.val (.ref o0), .val (.int p1), .val (.int p2), .val (.int p3), .val (.int p4), .val (.int p5), .val (.int p6)] [(.int (1 : Int32))])) _
              exact retN X13 hx (t := .boolean) Bd.returns (by simp) (hb hby dHO_58) hr
            · show QHO st p1 p2 p3 p4 p5 p6 h0 n0 _ T13.heap _
              rw [e13]
              exact ⟨(by rw [holdsV, if_pos hc7, if_pos hc17, if_pos hc28, if_pos hc39, if_pos hc50]), N0, rfl⟩
          · obtain ⟨fs, hr, hrun, hended, hW, hsame⟩ := X13.leave (v := some (.int (0 : Int32))) (fun h => by rw [Bd.returns] at h; cases h)
            refine ⟨_, _, pre15 _ ?_, hrun, hended, _, _, rfl, ?_, ⟨_, rfl⟩, hW, hsame.mono (by decide) (by decide)⟩
            · show Steps p.tables e below (T13.setTop (mkF m 50 #[.val (.ref o0), .val (.int p1), .val (.int p2), .val (.int p3), .val (.int p4), .val (.int p5), .val (.int p6)] [(.int p6), (.int ((hiS st) p1))])) _
              refine XS.icmpYes X13.here hx rfl (pc0 := 50) (pc' := 57) rfl (hb hby dHO_50) rfl (feq (show ¬ (((hiS st) p1) = p6) from hc50)).2 (by decide) (by decide) ?_
              show Steps p.tables e below (T13.setTop (mkF m 57 #[.val (.ref o0), .val (.int p1), .val (.int p2), .val (.int p3), .val (.int p4), .val (.int p5), .val (.int p6)] [])) _
              refine XS.iconst X13.here hx rfl (hb hby dHO_57) ?_
              show Steps p.tables e below (T13.setTop (mkF m 58 #[.val (.ref o0), .val (.int p1), .val (.int p2), .val (.int p3), .val (.int p4), .val (.int p5), .val (.int p6)] [(.int (0 : Int32))])) _
              exact retN X13 hx (t := .boolean) Bd.returns (by simp) (hb hby dHO_58) hr
            · show QHO st p1 p2 p3 p4 p5 p6 h0 n0 _ T13.heap _
              rw [e13]
              exact ⟨(by rw [holdsV, if_pos hc7, if_pos hc17, if_pos hc28, if_pos hc39, if_neg hc50]), N0, rfl⟩
        · obtain ⟨fs, hr, hrun, hended, hW, hsame⟩ := X10.leave (v := some (.int (0 : Int32))) (fun h => by rw [Bd.returns] at h; cases h)
          refine ⟨_, _, pre12 _ ?_, hrun, hended, _, _, rfl, ?_, ⟨_, rfl⟩, hW, hsame.mono (by decide) (by decide)⟩
          · show Steps p.tables e below (T10.setTop (mkF m 39 #[.val (.ref o0), .val (.int p1), .val (.int p2), .val (.int p3), .val (.int p4), .val (.int p5), .val (.int p6)] [(.int p5), (.int ((eqS st) p1))])) _
            refine XS.icmpYes X10.here hx rfl (pc0 := 39) (pc' := 57) rfl (hb hby dHO_39) rfl (feq (show ¬ (((eqS st) p1) = p5) from hc39)).2 (by decide) (by decide) ?_
            show Steps p.tables e below (T10.setTop (mkF m 57 #[.val (.ref o0), .val (.int p1), .val (.int p2), .val (.int p3), .val (.int p4), .val (.int p5), .val (.int p6)] [])) _
            refine XS.iconst X10.here hx rfl (hb hby dHO_57) ?_
            show Steps p.tables e below (T10.setTop (mkF m 58 #[.val (.ref o0), .val (.int p1), .val (.int p2), .val (.int p3), .val (.int p4), .val (.int p5), .val (.int p6)] [(.int (0 : Int32))])) _
            exact retN X10 hx (t := .boolean) Bd.returns (by simp) (hb hby dHO_58) hr
          · show QHO st p1 p2 p3 p4 p5 p6 h0 n0 _ T10.heap _
            rw [e10]
            exact ⟨(by rw [holdsV, if_pos hc7, if_pos hc17, if_pos hc28, if_neg hc39]), N0, rfl⟩
      · obtain ⟨fs, hr, hrun, hended, hW, hsame⟩ := X7.leave (v := some (.int (0 : Int32))) (fun h => by rw [Bd.returns] at h; cases h)
        refine ⟨_, _, pre9 _ ?_, hrun, hended, _, _, rfl, ?_, ⟨_, rfl⟩, hW, hsame.mono (by decide) (by decide)⟩
        · show Steps p.tables e below (T7.setTop (mkF m 28 #[.val (.ref o0), .val (.int p1), .val (.int p2), .val (.int p3), .val (.int p4), .val (.int p5), .val (.int p6)] [(.int p4), (.int ((loS st) p1))])) _
          refine XS.icmpYes X7.here hx rfl (pc0 := 28) (pc' := 57) rfl (hb hby dHO_28) rfl (feq (show ¬ (((loS st) p1) = p4) from hc28)).2 (by decide) (by decide) ?_
          show Steps p.tables e below (T7.setTop (mkF m 57 #[.val (.ref o0), .val (.int p1), .val (.int p2), .val (.int p3), .val (.int p4), .val (.int p5), .val (.int p6)] [])) _
          refine XS.iconst X7.here hx rfl (hb hby dHO_57) ?_
          show Steps p.tables e below (T7.setTop (mkF m 58 #[.val (.ref o0), .val (.int p1), .val (.int p2), .val (.int p3), .val (.int p4), .val (.int p5), .val (.int p6)] [(.int (0 : Int32))])) _
          exact retN X7 hx (t := .boolean) Bd.returns (by simp) (hb hby dHO_58) hr
        · show QHO st p1 p2 p3 p4 p5 p6 h0 n0 _ T7.heap _
          rw [e7]
          exact ⟨(by rw [holdsV, if_pos hc7, if_pos hc17, if_neg hc28]), N0, rfl⟩
    · obtain ⟨fs, hr, hrun, hended, hW, hsame⟩ := X4.leave (v := some (.int (0 : Int32))) (fun h => by rw [Bd.returns] at h; cases h)
      refine ⟨_, _, pre6 _ ?_, hrun, hended, _, _, rfl, ?_, ⟨_, rfl⟩, hW, hsame.mono (by decide) (by decide)⟩
      · show Steps p.tables e below (T4.setTop (mkF m 17 #[.val (.ref o0), .val (.int p1), .val (.int p2), .val (.int p3), .val (.int p4), .val (.int p5), .val (.int p6)] [(.int p3), (.int ((frS st) p1))])) _
        refine XS.icmpYes X4.here hx rfl (pc0 := 17) (pc' := 57) rfl (hb hby dHO_17) rfl (feq (show ¬ (((frS st) p1) = p3) from hc17)).2 (by decide) (by decide) ?_
        show Steps p.tables e below (T4.setTop (mkF m 57 #[.val (.ref o0), .val (.int p1), .val (.int p2), .val (.int p3), .val (.int p4), .val (.int p5), .val (.int p6)] [])) _
        refine XS.iconst X4.here hx rfl (hb hby dHO_57) ?_
        show Steps p.tables e below (T4.setTop (mkF m 58 #[.val (.ref o0), .val (.int p1), .val (.int p2), .val (.int p3), .val (.int p4), .val (.int p5), .val (.int p6)] [(.int (0 : Int32))])) _
        exact retN X4 hx (t := .boolean) Bd.returns (by simp) (hb hby dHO_58) hr
      · show QHO st p1 p2 p3 p4 p5 p6 h0 n0 _ T4.heap _
        rw [e4]
        exact ⟨(by rw [holdsV, if_pos hc7, if_neg hc17]), N0, rfl⟩
  · obtain ⟨fs, hr, hrun, hended, hW, hsame⟩ := X1.leave (v := some (.int (0 : Int32))) (fun h => by rw [Bd.returns] at h; cases h)
    refine ⟨_, _, pre3 _ ?_, hrun, hended, _, _, rfl, ?_, ⟨_, rfl⟩, hW, hsame.mono (by decide) (by decide)⟩
    · show Steps p.tables e below (T1.setTop (mkF m 7 #[.val (.ref o0), .val (.int p1), .val (.int p2), .val (.int p3), .val (.int p4), .val (.int p5), .val (.int p6)] [(.int p2), (.int ((cpS st) p1))])) _
      refine XS.icmpYes X1.here hx rfl (pc0 := 7) (pc' := 57) rfl (hb hby dHO_7) rfl (feq (show ¬ (((cpS st) p1) = p2) from hc7)).2 (by decide) (by decide) ?_
      show Steps p.tables e below (T1.setTop (mkF m 57 #[.val (.ref o0), .val (.int p1), .val (.int p2), .val (.int p3), .val (.int p4), .val (.int p5), .val (.int p6)] [])) _
      refine XS.iconst X1.here hx rfl (hb hby dHO_57) ?_
      show Steps p.tables e below (T1.setTop (mkF m 58 #[.val (.ref o0), .val (.int p1), .val (.int p2), .val (.int p3), .val (.int p4), .val (.int p5), .val (.int p6)] [(.int (0 : Int32))])) _
      exact retN X1 hx (t := .boolean) Bd.returns (by simp) (hb hby dHO_58) hr
    · show QHO st p1 p2 p3 p4 p5 p6 h0 n0 _ T1.heap _
      rw [e1]
      exact ⟨(by rw [holdsV, if_neg hc7]), N0, rfl⟩
theorem dSL_0 : decode prog_22_method_4_code 0 = .ok (.aload_n 0, 1) := by decide +kernel
theorem dSL_1 : decode prog_22_method_4_code 1 = .ok (.getfield 29, 3) := by decide +kernel
theorem dSL_4 : decode prog_22_method_4_code 4 = .ok (.arraylength, 1) := by decide +kernel
theorem dSL_5 : decode prog_22_method_4_code 5 = .ok (.iconst 1, 1) := by decide +kernel
theorem dSL_6 : decode prog_22_method_4_code 6 = .ok (.isub, 1) := by decide +kernel
theorem dSL_7 : decode prog_22_method_4_code 7 = .ok (.istore 6, 2) := by decide +kernel
theorem dSL_9 : decode prog_22_method_4_code 9 = .ok (.iload_n 1, 1) := by decide +kernel
theorem dSL_10 : decode prog_22_method_4_code 10 = .ok (.iload_n 2, 1) := by decide +kernel
theorem dSL_11 : decode prog_22_method_4_code 11 = .ok (.iload_n 3, 1) := by decide +kernel
theorem dSL_12 : decode prog_22_method_4_code 12 = .ok (.iload 4, 2) := by decide +kernel
theorem dSL_14 : decode prog_22_method_4_code 14 = .ok (.iload 5, 2) := by decide +kernel
theorem dSL_16 : decode prog_22_method_4_code 16 = .ok (.invokestatic 51, 3) := by decide +kernel
theorem dSL_19 : decode prog_22_method_4_code 19 = .ok (.iload 6, 2) := by decide +kernel
theorem dSL_21 : decode prog_22_method_4_code 21 = .ok (.iand, 1) := by decide +kernel
theorem dSL_22 : decode prog_22_method_4_code 22 = .ok (.istore 7, 2) := by decide +kernel
theorem dSL_24 : decode prog_22_method_4_code 24 = .ok (.aload_n 0, 1) := by decide +kernel
theorem dSL_25 : decode prog_22_method_4_code 25 = .ok (.getfield 29, 3) := by decide +kernel
theorem dSL_28 : decode prog_22_method_4_code 28 = .ok (.iload 7, 2) := by decide +kernel
theorem dSL_30 : decode prog_22_method_4_code 30 = .ok (.iaload, 1) := by decide +kernel
theorem dSL_31 : decode prog_22_method_4_code 31 = .ok (.iconst (-1), 1) := by decide +kernel
theorem dSL_32 : decode prog_22_method_4_code 32 = .ok (.if_icmp .eq 36, 3) := by decide +kernel
theorem dSL_35 : decode prog_22_method_4_code 35 = .ok (.aload_n 0, 1) := by decide +kernel
theorem dSL_36 : decode prog_22_method_4_code 36 = .ok (.aload_n 0, 1) := by decide +kernel
theorem dSL_37 : decode prog_22_method_4_code 37 = .ok (.getfield 29, 3) := by decide +kernel
theorem dSL_40 : decode prog_22_method_4_code 40 = .ok (.iload 7, 2) := by decide +kernel
theorem dSL_42 : decode prog_22_method_4_code 42 = .ok (.iaload, 1) := by decide +kernel
theorem dSL_43 : decode prog_22_method_4_code 43 = .ok (.iload_n 1, 1) := by decide +kernel
theorem dSL_44 : decode prog_22_method_4_code 44 = .ok (.iload_n 2, 1) := by decide +kernel
theorem dSL_45 : decode prog_22_method_4_code 45 = .ok (.iload_n 3, 1) := by decide +kernel
theorem dSL_46 : decode prog_22_method_4_code 46 = .ok (.iload 4, 2) := by decide +kernel
theorem dSL_48 : decode prog_22_method_4_code 48 = .ok (.iload 5, 2) := by decide +kernel
theorem dSL_50 : decode prog_22_method_4_code 50 = .ok (.invokevirtual 54, 3) := by decide +kernel
theorem dSL_53 : decode prog_22_method_4_code 53 = .ok (.ifCond .ne 15, 3) := by decide +kernel
theorem dSL_56 : decode prog_22_method_4_code 56 = .ok (.iload 7, 2) := by decide +kernel
theorem dSL_58 : decode prog_22_method_4_code 58 = .ok (.iconst 1, 1) := by decide +kernel
theorem dSL_59 : decode prog_22_method_4_code 59 = .ok (.iadd, 1) := by decide +kernel
theorem dSL_60 : decode prog_22_method_4_code 60 = .ok (.iload 6, 2) := by decide +kernel
theorem dSL_62 : decode prog_22_method_4_code 62 = .ok (.iand, 1) := by decide +kernel
theorem dSL_63 : decode prog_22_method_4_code 63 = .ok (.istore 7, 2) := by decide +kernel
theorem dSL_65 : decode prog_22_method_4_code 65 = .ok (.goto (-41), 3) := by decide +kernel
theorem dSL_68 : decode prog_22_method_4_code 68 = .ok (.iload 7, 2) := by decide +kernel
theorem dSL_70 : decode prog_22_method_4_code 70 = .ok (.ireturn, 1) := by decide +kernel
theorem pd_3 : parseMethodDescriptor "(IIIII)I" = some ⟨[.int, .int, .int, .int, .int], some .int⟩ := by decide +kernel
theorem pd_4 : parseMethodDescriptor "(IIIIII)Z" = some ⟨[.int, .int, .int, .int, .int, .int], some .boolean⟩ := by decide +kernel
theorem ef_SL (m : MethodId) (o0 : Addr) (p1 : Int32) (p2 : Int32) (p3 : Int32) (p4 : Int32) (p5 : Int32) : entryFrame m #[(.ref o0), (.int p1), (.int p2), (.int p3), (.int p4), (.int p5)] 8 = mkF m 0 #[.val (.ref o0), .val (.int p1), .val (.int p2), .val (.int p3), .val (.int p4), .val (.int p5), .unset, .unset] [] := by first | (simp [entryFrame, mkF, argsToLocals, Value.category]; done) | rfl
def QSL (st : NSt) (p1 p2 p3 p4 p5 : Int32) (h0 : Heap) (n0 : Nat) (v : Option Value) (h : Heap) (L : List Loc) : Prop := v = some (.int (slotV st p1 p2 p3 p4 p5)) ∧ Fr n0 L ∧ h = h0
set_option maxRecDepth 65536 in
set_option maxHeartbeats 40000000 in
theorem rmSL (l : Launch) (Z : State) (a0 : Array Value) (hw : ∀ d ∈ tables_1, d.before a0 Z = true) (ws : List Jvm.Cond) (o0 cp fr lo eq hi sl : Addr) (st : NSt) (p1 p2 p3 p4 p5 : Int32) (h0 : Heap) (n0 : Nat) (Z0 : n0 ≤ h0.size) (hNS : NS Z h0 n0 o0 cp fr lo eq hi sl st) (hD : Dist o0 cp fr lo eq hi sl) (hR : Ready st p1 p2 p3 p4 p5) :
    MetFree l (⟨"com/example/libforeword/libforeword/tree/NodeStore", "slot", "(IIIII)I"⟩ : MethodName) (head1 (Jvm.Cond.code (⟨"com/example/libforeword/libforeword/tree/NodeStore", "slot", "(IIIII)I"⟩ : MethodName) prog_22_method_4_code 8 (some .int) :: ws) ({ frames := 2, cells := 0, slots := 0, locals := 32 } : Room)) (fun a U => a = #[(.ref o0), (.int p1), (.int p2), (.int p3), (.int p4), (.int p5)] ∧ Z.Warmed39 U.vm ∧ U.heap = h0) (fun _ _ _ _ _ => True) (fun _ U o U' => ∃ v L, o = .returned v ∧ QSL st p1 p2 p3 p4 p5 h0 n0 v U'.heap L ∧ FrameEnd U o U' L ({ frames := 2, cells := 0, slots := 0, locals := 32 } : Room).cells ({ frames := 2, cells := 0, slots := 0, locals := 32 } : Room).slots) := by
  refine MetFree.of_bodySF (plainFor_of_name pn_1) hisR ?_
  intro p e s m args below meth c s₁ Bd hml0 hP hK
  obtain ⟨rfl, hZ, hh⟩ := hP
  have hx := Bd.exec
  have hby := Bd.bytes
  have hml : c.maxLocals = 8 := hml0
  have hown : s.vm.findClass "com/example/libforeword/libforeword/tree/NodeStore" = some m.cls := findClass_of_methodNamed Bd.named
  have hnm := (name_of_methodNamed Bd.named Bd.method).1
  have X0 : Stand p l e ({ frames := 2, cells := 0, slots := 0, locals := 32 } : Room) s m #[(.ref o0), (.int p1), (.int p2), (.int p3), (.int p4), (.int p5)] below meth c s₁ [] 0 0 := Stand.of_body Bd
  have e0 : s₁.heap = h0 := by rw [← hh, Bd.state]; rfl
  have N0 := Fr.nil n0
  have pre0 : ∀ t, Steps p.tables e below (s₁.setTop (mkF m 0 #[.val (.ref o0), .val (.int p1), .val (.int p2), .val (.int p3), .val (.int p4), .val (.int p5), .unset, .unset] [])) t → Steps p.tables e below (s₁.setTop (entryFrame m #[(.ref o0), (.int p1), (.int p2), (.int p3), (.int p4), (.int p5)] 8)) t := fun t k => castTop (ef_SL m o0 p1 p2 p3 p4 p5) k
  have hNS0 := hNS
  have hD0 := hD
  obtain ⟨E_o0, F_cp, F_fr, F_lo, F_eq, F_hi, F_sl, F_size, A_cp, A_fr, A_lo, A_eq, A_hi, A_sl, g_o0, g_cp, g_fr, g_lo, g_eq, g_hi, g_sl⟩ := hNS
  obtain ⟨ne_o0_cp, ne_o0_fr, ne_o0_lo, ne_o0_eq, ne_o0_hi, ne_o0_sl, ne_cp_fr, ne_cp_lo, ne_cp_eq, ne_cp_hi, ne_cp_sl, ne_fr_lo, ne_fr_eq, ne_fr_hi, ne_fr_sl, ne_lo_eq, ne_lo_hi, ne_lo_sl, ne_eq_hi, ne_eq_sl, ne_hi_sl⟩ := hD
  obtain ⟨hS, hF, hn, hsl⟩ := hR
  obtain ⟨T1, X1, e1, st1⟩ := getF X0 hx hZ hown (host := "") (Or.inl (hw _ (List.mem_of_getElem? (i := 27) rfl))) Via.refl e0 F_sl (g := (mkF m 1 #[.val (.ref o0), .val (.int p1), .val (.int p2), .val (.int p3), .val (.int p4), .val (.int p5), .unset, .unset] [(.ref o0)])) rfl rfl (hb hby dSL_1)
  obtain ⟨cl2, Ar2, S2, Nn2, -⟩ := id A_sl
  obtain ⟨_, _, ⟨T3, L3, k3, n3⟩, -, X3, ⟨Lc3, hQ3, l3, y3, z3⟩, st3⟩ := Jvm.LawKit.callS X1 hx (y := (⟨"com/example/libforeword/libforeword/tree/NodeStore", "hash", "(IIIII)I"⟩ : MethodName)) hown (mvT hZ (hw _ (List.mem_of_getElem? (i := 42) rfl))) (mvT hZ (hw _ (List.mem_of_getElem? (i := 43) rfl))) (mvT hZ (hw _ (List.mem_of_getElem? (i := 3) rfl))) (mvT hZ (hw _ (List.mem_of_getElem? (i := 44) rfl))) (by decide) (backOf (W := 0) (rmHA l Z a0 hw [] p1 p2 p3 p4 p5 h0 n0 Z0 ) hZ (hw _ (List.mem_of_getElem? (i := 44) rfl)) (hw _ (List.mem_of_getElem? (i := 3) rfl)) (by decide) (by decide)) (g := (mkF m 16 #[.val (.ref o0), .val (.int p1), .val (.int p2), .val (.int p3), .val (.int p4), .val (.int p5), .val (.int (127 : Int32)), .unset] [(.int p5), (.int p4), (.int p3), (.int p2), (.int p1)])) rfl (by rw [hml]; rfl) (argsL := [(.int p1), (.int p2), (.int p3), (.int p4), (.int p5)]) (rest := []) (lenOf pd_3 rfl) rfl (by show 2 * 0 + _ ≤ _; exact Nat.le_of_eq rfl) (hb hby dSL_16) (fun _ _ => ⟨rfl, e1, (by decide : 0 + 0 ≤ _), (by decide : 0 + 0 ≤ _)⟩)
  dsimp only [Pt.U, Pt.locs, Pt.cells, Pt.slots] at X3 l3 y3 z3 st3 hQ3
  subst l3 y3 z3
  obtain ⟨rfl, N3q, e3⟩ := hQ3
  have N3 := Fr.app N0 N3q
  have pre4 : ∀ t, Steps p.tables e below (T3.setTop (mkF m 24 #[.val (.ref o0), .val (.int p1), .val (.int p2), .val (.int p3), .val (.int p4), .val (.int p5), .val (.int (127 : Int32)), .val (.int ((hashV p1 p2 p3 p4 p5) &&& (127 : Int32)))] [])) t → Steps p.tables e below (s₁.setTop (entryFrame m #[(.ref o0), (.int p1), (.int p2), (.int p3), (.int p4), (.int p5)] 8)) t := fun t kt => pre0 t (by
      show Steps p.tables e below (s₁.setTop (mkF m 0 #[.val (.ref o0), .val (.int p1), .val (.int p2), .val (.int p3), .val (.int p4), .val (.int p5), .unset, .unset] [])) _
      refine XS.aloadN X0.here hx rfl (hb hby dSL_0) rfl rfl ?_
      show Steps p.tables e below (s₁.setTop (mkF m 1 #[.val (.ref o0), .val (.int p1), .val (.int p2), .val (.int p3), .val (.int p4), .val (.int p5), .unset, .unset] [(.ref o0)])) _
      refine st1 _ ?_
      show Steps p.tables e below (T1.setTop (mkF m 4 #[.val (.ref o0), .val (.int p1), .val (.int p2), .val (.int p3), .val (.int p4), .val (.int p5), .unset, .unset] [(.ref sl)])) _
      refine X1.arraylength hx (by rw [e1]; exact Ar2.1) (State.isArrayOf_alike hZ.alike Ar2.2.1) (g := (mkF m 4 #[.val (.ref o0), .val (.int p1), .val (.int p2), .val (.int p3), .val (.int p4), .val (.int p5), .unset, .unset] [(.ref sl)])) rfl rfl (hb hby dSL_4) _ ?_
      rw [len_of S2 Nn2]
      show Steps p.tables e below (T1.setTop (mkF m 5 #[.val (.ref o0), .val (.int p1), .val (.int p2), .val (.int p3), .val (.int p4), .val (.int p5), .unset, .unset] [(.int (128 : Int32))])) _
      refine XS.iconst X1.here hx rfl (hb hby dSL_5) ?_
      show Steps p.tables e below (T1.setTop (mkF m 6 #[.val (.ref o0), .val (.int p1), .val (.int p2), .val (.int p3), .val (.int p4), .val (.int p5), .unset, .unset] [(.int (1 : Int32)), (.int (128 : Int32))])) _
      refine XS.isub X1.here hx rfl (hb hby dSL_6) rfl ?_
      show Steps p.tables e below (T1.setTop (mkF m 7 #[.val (.ref o0), .val (.int p1), .val (.int p2), .val (.int p3), .val (.int p4), .val (.int p5), .unset, .unset] [(.int (127 : Int32))])) _
      refine XS.istore X1.here hx rfl (hb hby dSL_7) rfl (l' := #[.val (.ref o0), .val (.int p1), .val (.int p2), .val (.int p3), .val (.int p4), .val (.int p5), .val (.int (127 : Int32)), .unset]) rfl ?_
      show Steps p.tables e below (T1.setTop (mkF m 9 #[.val (.ref o0), .val (.int p1), .val (.int p2), .val (.int p3), .val (.int p4), .val (.int p5), .val (.int (127 : Int32)), .unset] [])) _
      refine XS.iloadN X1.here hx rfl (hb hby dSL_9) rfl ?_
      show Steps p.tables e below (T1.setTop (mkF m 10 #[.val (.ref o0), .val (.int p1), .val (.int p2), .val (.int p3), .val (.int p4), .val (.int p5), .val (.int (127 : Int32)), .unset] [(.int p1)])) _
      refine XS.iloadN X1.here hx rfl (hb hby dSL_10) rfl ?_
      show Steps p.tables e below (T1.setTop (mkF m 11 #[.val (.ref o0), .val (.int p1), .val (.int p2), .val (.int p3), .val (.int p4), .val (.int p5), .val (.int (127 : Int32)), .unset] [(.int p2), (.int p1)])) _
      refine XS.iloadN X1.here hx rfl (hb hby dSL_11) rfl ?_
      show Steps p.tables e below (T1.setTop (mkF m 12 #[.val (.ref o0), .val (.int p1), .val (.int p2), .val (.int p3), .val (.int p4), .val (.int p5), .val (.int (127 : Int32)), .unset] [(.int p3), (.int p2), (.int p1)])) _
      refine XS.iload X1.here hx rfl (hb hby dSL_12) rfl ?_
      show Steps p.tables e below (T1.setTop (mkF m 14 #[.val (.ref o0), .val (.int p1), .val (.int p2), .val (.int p3), .val (.int p4), .val (.int p5), .val (.int (127 : Int32)), .unset] [(.int p4), (.int p3), (.int p2), (.int p1)])) _
      refine XS.iload X1.here hx rfl (hb hby dSL_14) rfl ?_
      show Steps p.tables e below (T1.setTop (mkF m 16 #[.val (.ref o0), .val (.int p1), .val (.int p2), .val (.int p3), .val (.int p4), .val (.int p5), .val (.int (127 : Int32)), .unset] [(.int p5), (.int p4), (.int p3), (.int p2), (.int p1)])) _
      refine st3 _ ?_
      show Steps p.tables e below (T3.setTop (mkF m 19 #[.val (.ref o0), .val (.int p1), .val (.int p2), .val (.int p3), .val (.int p4), .val (.int p5), .val (.int (127 : Int32)), .unset] [(.int (hashV p1 p2 p3 p4 p5))])) _
      refine XS.iload X3.here hx rfl (hb hby dSL_19) rfl ?_
      show Steps p.tables e below (T3.setTop (mkF m 21 #[.val (.ref o0), .val (.int p1), .val (.int p2), .val (.int p3), .val (.int p4), .val (.int p5), .val (.int (127 : Int32)), .unset] [(.int (127 : Int32)), (.int (hashV p1 p2 p3 p4 p5))])) _
      refine XS.iand X3.here hx rfl (hb hby dSL_21) rfl ?_
      show Steps p.tables e below (T3.setTop (mkF m 22 #[.val (.ref o0), .val (.int p1), .val (.int p2), .val (.int p3), .val (.int p4), .val (.int p5), .val (.int (127 : Int32)), .unset] [(.int ((hashV p1 p2 p3 p4 p5) &&& (127 : Int32)))])) _
      refine XS.istore X3.here hx rfl (hb hby dSL_22) rfl (l' := #[.val (.ref o0), .val (.int p1), .val (.int p2), .val (.int p3), .val (.int p4), .val (.int p5), .val (.int (127 : Int32)), .val (.int ((hashV p1 p2 p3 p4 p5) &&& (127 : Int32)))]) rfl ?_
      exact kt)
  have loop : ∀ (k : Nat) (T : State) (locs : List Loc) (i r : Int32), Stand p l e ({ frames := 2, cells := 0, slots := 0, locals := 32 } : Room) s m #[(.ref o0), (.int p1), (.int p2), (.int p3), (.int p4), (.int p5)] below meth c T locs 0 0 → T.heap = h0 → Fr n0 locs → InR i → probe st (p1, p2, p3, p4, p5) k i = some r → ∃ (T' : State) (locs' : List Loc), Stand p l e ({ frames := 2, cells := 0, slots := 0, locals := 32 } : Room) s m #[(.ref o0), (.int p1), (.int p2), (.int p3), (.int p4), (.int p5)] below meth c T' locs' 0 0 ∧ T'.heap = h0 ∧ Fr n0 locs' ∧ ∀ t, Steps p.tables e below (T'.setTop (mkF m 68 #[.val (.ref o0), .val (.int p1), .val (.int p2), .val (.int p3), .val (.int p4), .val (.int p5), .val (.int (127 : Int32)), .val (.int r)] [])) t → Steps p.tables e below (T.setTop (mkF m 24 #[.val (.ref o0), .val (.int p1), .val (.int p2), .val (.int p3), .val (.int p4), .val (.int p5), .val (.int (127 : Int32)), .val (.int i)] [])) t := by
    intro k
    induction k with
    | zero =>
      intro T locs i r XT eT NT hiR hp
      cases hp
    | succ k ih =>
      intro T locs i r XT eT NT hiR hp
      have preS : ∀ t, Steps p.tables e below (T.setTop (mkF m 24 #[.val (.ref o0), .val (.int p1), .val (.int p2), .val (.int p3), .val (.int p4), .val (.int p5), .val (.int (127 : Int32)), .val (.int i)] [])) t → Steps p.tables e below (T.setTop (mkF m 24 #[.val (.ref o0), .val (.int p1), .val (.int p2), .val (.int p3), .val (.int p4), .val (.int p5), .val (.int (127 : Int32)), .val (.int i)] [])) t := fun t k => k
      obtain ⟨T5, X5, e5, st5⟩ := getF XT hx hZ hown (host := "") (Or.inl (hw _ (List.mem_of_getElem? (i := 27) rfl))) Via.refl eT F_sl (g := (mkF m 25 #[.val (.ref o0), .val (.int p1), .val (.int p2), .val (.int p3), .val (.int p4), .val (.int p5), .val (.int (127 : Int32)), .val (.int i)] [(.ref o0)])) rfl rfl (hb hby dSL_25)
      obtain ⟨cl6, Ar6, S6, Nn6, Hh6⟩ := id A_sl
      have ib6 : ¬ (i) < 0 ∧ (i) < (128 : Int32) := hiR
      have pre7 : ∀ t, Steps p.tables e below (T5.setTop (mkF m 32 #[.val (.ref o0), .val (.int p1), .val (.int p2), .val (.int p3), .val (.int p4), .val (.int p5), .val (.int (127 : Int32)), .val (.int i)] [(.int (-1 : Int32)), (.int ((slS st) i))])) t → Steps p.tables e below (T.setTop (mkF m 24 #[.val (.ref o0), .val (.int p1), .val (.int p2), .val (.int p3), .val (.int p4), .val (.int p5), .val (.int (127 : Int32)), .val (.int i)] [])) t := fun t kt => preS t (by
          show Steps p.tables e below (T.setTop (mkF m 24 #[.val (.ref o0), .val (.int p1), .val (.int p2), .val (.int p3), .val (.int p4), .val (.int p5), .val (.int (127 : Int32)), .val (.int i)] [])) _
          refine XS.aloadN XT.here hx rfl (hb hby dSL_24) rfl rfl ?_
          show Steps p.tables e below (T.setTop (mkF m 25 #[.val (.ref o0), .val (.int p1), .val (.int p2), .val (.int p3), .val (.int p4), .val (.int p5), .val (.int (127 : Int32)), .val (.int i)] [(.ref o0)])) _
          refine st5 _ ?_
          show Steps p.tables e below (T5.setTop (mkF m 28 #[.val (.ref o0), .val (.int p1), .val (.int p2), .val (.int p3), .val (.int p4), .val (.int p5), .val (.int (127 : Int32)), .val (.int i)] [(.ref sl)])) _
          refine XS.iload X5.here hx rfl (hb hby dSL_28) rfl ?_
          show Steps p.tables e below (T5.setTop (mkF m 30 #[.val (.ref o0), .val (.int p1), .val (.int p2), .val (.int p3), .val (.int p4), .val (.int p5), .val (.int (127 : Int32)), .val (.int i)] [(.int i), (.ref sl)])) _
          refine X5.iaload hx (j := i) (v := (.int ((slS st) i))) (by rw [e5]; exact Ar6.1) (State.isArrayOf_alike hZ.alike Ar6.2.1) Ar6.2.2 (inb_of S6 ib6) (Hh6 _ ib6.1 ib6.2) (g := (mkF m 30 #[.val (.ref o0), .val (.int p1), .val (.int p2), .val (.int p3), .val (.int p4), .val (.int p5), .val (.int (127 : Int32)), .val (.int i)] [(.int i), (.ref sl)])) rfl rfl (hb hby dSL_30) _ ?_
          show Steps p.tables e below (T5.setTop (mkF m 31 #[.val (.ref o0), .val (.int p1), .val (.int p2), .val (.int p3), .val (.int p4), .val (.int p5), .val (.int (127 : Int32)), .val (.int i)] [(.int ((slS st) i))])) _
          refine XS.iconst X5.here hx rfl (hb hby dSL_31) ?_
          exact kt)
      by_cases hc32 : ((slS st) i) = (-1 : Int32)
      · rw [probe, if_pos hc32] at hp
        obtain rfl := Option.some.inj hp
        exact ⟨T5, _, X5, e5, NT, fun t kt => pre7 t (by
            show Steps p.tables e below (T5.setTop (mkF m 32 #[.val (.ref o0), .val (.int p1), .val (.int p2), .val (.int p3), .val (.int p4), .val (.int p5), .val (.int (127 : Int32)), .val (.int i)] [(.int (-1 : Int32)), (.int ((slS st) i))])) _
            refine XS.icmpYes X5.here hx rfl (pc0 := 32) (pc' := 68) rfl (hb hby dSL_32) rfl (teq (show ((slS st) i) = (-1 : Int32) from hc32)).1 (by decide) (by decide) ?_
            exact kt)⟩
      · obtain ⟨T8, X8, e8, st8⟩ := getF X5 hx hZ hown (host := "") (Or.inl (hw _ (List.mem_of_getElem? (i := 27) rfl))) Via.refl e5 F_sl (g := (mkF m 37 #[.val (.ref o0), .val (.int p1), .val (.int p2), .val (.int p3), .val (.int p4), .val (.int p5), .val (.int (127 : Int32)), .val (.int i)] [(.ref o0), (.ref o0)])) rfl rfl (hb hby dSL_37)
        obtain ⟨cl9, Ar9, S9, Nn9, Hh9⟩ := id A_sl
        have ib9 : ¬ (i) < 0 ∧ (i) < (128 : Int32) := hiR
        obtain ⟨cq10, q10, q10'⟩ := E_o0.cell
        obtain ⟨_, _, ⟨T10, L10, k10, n10⟩, -, X10, ⟨Lc10, hQ10, l10, y10, z10⟩, st10⟩ := X8.privateBack hx (y := (⟨"com/example/libforeword/libforeword/tree/NodeStore", "holds", "(IIIIII)Z"⟩ : MethodName)) hown (mvT hZ (hw _ (List.mem_of_getElem? (i := 52) rfl))) (mvT hZ (hw _ (List.mem_of_getElem? (i := 53) rfl))) (own_selp (y' := (⟨"com/example/libforeword/libforeword/tree/NodeStore", "add", "(IIIII)I"⟩ : MethodName)) rfl rfl (mvT hZ (hw _ (List.mem_of_getElem? (i := 36) rfl))) (mvT hZ (hw _ (List.mem_of_getElem? (i := 53) rfl))) (Cond.privateMethod_at (mvP hZ (hw _ (List.mem_of_getElem? (i := 54) rfl)) (args := #[])))) (Cond.privateMethod_at (mvP hZ (hw _ (List.mem_of_getElem? (i := 54) rfl)) (args := #[]))) (mvT hZ (hw _ (List.mem_of_getElem? (i := 55) rfl))) (by decide) (backOf (W := 0) (rmHO l Z a0 hw [] o0 cp fr lo eq hi sl st ((slS st) i) p1 p2 p3 p4 p5 h0 n0 Z0 hNS0 hD0 (own_sound hS hiR hc32)) hZ (hw _ (List.mem_of_getElem? (i := 55) rfl)) (hw _ (List.mem_of_getElem? (i := 3) rfl)) (by decide) (by decide)) (g := (mkF m 50 #[.val (.ref o0), .val (.int p1), .val (.int p2), .val (.int p3), .val (.int p4), .val (.int p5), .val (.int (127 : Int32)), .val (.int i)] [(.int p5), (.int p4), (.int p3), (.int p2), (.int p1), (.int ((slS st) i)), (.ref o0)])) rfl (by rw [hml]; rfl) (Steps.refl _) (a := o0) (by rw [e8]; exact q10) q10' (argsL := [(.int ((slS st) i)), (.int p1), (.int p2), (.int p3), (.int p4), (.int p5)]) (rest := []) (lenOf pd_4 rfl) rfl (by show 2 * 0 + _ ≤ _; exact Nat.le_of_eq rfl) (hb hby dSL_50) (fun _ _ => ⟨rfl, e8, (by decide : 0 + 0 ≤ _), (by decide : 0 + 0 ≤ _)⟩)
        dsimp only [Pt.U, Pt.locs, Pt.cells, Pt.slots] at X10 l10 y10 z10 st10 hQ10
        subst l10 y10 z10
        obtain ⟨rfl, N10q, e10⟩ := hQ10
        have N10 := Fr.app NT N10q
        have pre11 : ∀ t, Steps p.tables e below (T10.setTop (mkF m 53 #[.val (.ref o0), .val (.int p1), .val (.int p2), .val (.int p3), .val (.int p4), .val (.int p5), .val (.int (127 : Int32)), .val (.int i)] [(.int (holdsV st ((slS st) i) p1 p2 p3 p4 p5))])) t → Steps p.tables e below (T.setTop (mkF m 24 #[.val (.ref o0), .val (.int p1), .val (.int p2), .val (.int p3), .val (.int p4), .val (.int p5), .val (.int (127 : Int32)), .val (.int i)] [])) t := fun t kt => pre7 t (by
            show Steps p.tables e below (T5.setTop (mkF m 32 #[.val (.ref o0), .val (.int p1), .val (.int p2), .val (.int p3), .val (.int p4), .val (.int p5), .val (.int (127 : Int32)), .val (.int i)] [(.int (-1 : Int32)), (.int ((slS st) i))])) _
            refine XS.icmpNo X5.here hx rfl (hb hby dSL_32) rfl (feq (show ¬ (((slS st) i) = (-1 : Int32)) from hc32)).1 ?_
            show Steps p.tables e below (T5.setTop (mkF m 35 #[.val (.ref o0), .val (.int p1), .val (.int p2), .val (.int p3), .val (.int p4), .val (.int p5), .val (.int (127 : Int32)), .val (.int i)] [])) _
            refine XS.aloadN X5.here hx rfl (hb hby dSL_35) rfl rfl ?_
            show Steps p.tables e below (T5.setTop (mkF m 36 #[.val (.ref o0), .val (.int p1), .val (.int p2), .val (.int p3), .val (.int p4), .val (.int p5), .val (.int (127 : Int32)), .val (.int i)] [(.ref o0)])) _
            refine XS.aloadN X5.here hx rfl (hb hby dSL_36) rfl rfl ?_
            show Steps p.tables e below (T5.setTop (mkF m 37 #[.val (.ref o0), .val (.int p1), .val (.int p2), .val (.int p3), .val (.int p4), .val (.int p5), .val (.int (127 : Int32)), .val (.int i)] [(.ref o0), (.ref o0)])) _
            refine st8 _ ?_
            show Steps p.tables e below (T8.setTop (mkF m 40 #[.val (.ref o0), .val (.int p1), .val (.int p2), .val (.int p3), .val (.int p4), .val (.int p5), .val (.int (127 : Int32)), .val (.int i)] [(.ref sl), (.ref o0)])) _
            refine XS.iload X8.here hx rfl (hb hby dSL_40) rfl ?_
            show Steps p.tables e below (T8.setTop (mkF m 42 #[.val (.ref o0), .val (.int p1), .val (.int p2), .val (.int p3), .val (.int p4), .val (.int p5), .val (.int (127 : Int32)), .val (.int i)] [(.int i), (.ref sl), (.ref o0)])) _
            refine X8.iaload hx (j := i) (v := (.int ((slS st) i))) (by rw [e8]; exact Ar9.1) (State.isArrayOf_alike hZ.alike Ar9.2.1) Ar9.2.2 (inb_of S9 ib9) (Hh9 _ ib9.1 ib9.2) (g := (mkF m 42 #[.val (.ref o0), .val (.int p1), .val (.int p2), .val (.int p3), .val (.int p4), .val (.int p5), .val (.int (127 : Int32)), .val (.int i)] [(.int i), (.ref sl), (.ref o0)])) rfl rfl (hb hby dSL_42) _ ?_
            show Steps p.tables e below (T8.setTop (mkF m 43 #[.val (.ref o0), .val (.int p1), .val (.int p2), .val (.int p3), .val (.int p4), .val (.int p5), .val (.int (127 : Int32)), .val (.int i)] [(.int ((slS st) i)), (.ref o0)])) _
            refine XS.iloadN X8.here hx rfl (hb hby dSL_43) rfl ?_
            show Steps p.tables e below (T8.setTop (mkF m 44 #[.val (.ref o0), .val (.int p1), .val (.int p2), .val (.int p3), .val (.int p4), .val (.int p5), .val (.int (127 : Int32)), .val (.int i)] [(.int p1), (.int ((slS st) i)), (.ref o0)])) _
            refine XS.iloadN X8.here hx rfl (hb hby dSL_44) rfl ?_
            show Steps p.tables e below (T8.setTop (mkF m 45 #[.val (.ref o0), .val (.int p1), .val (.int p2), .val (.int p3), .val (.int p4), .val (.int p5), .val (.int (127 : Int32)), .val (.int i)] [(.int p2), (.int p1), (.int ((slS st) i)), (.ref o0)])) _
            refine XS.iloadN X8.here hx rfl (hb hby dSL_45) rfl ?_
            show Steps p.tables e below (T8.setTop (mkF m 46 #[.val (.ref o0), .val (.int p1), .val (.int p2), .val (.int p3), .val (.int p4), .val (.int p5), .val (.int (127 : Int32)), .val (.int i)] [(.int p3), (.int p2), (.int p1), (.int ((slS st) i)), (.ref o0)])) _
            refine XS.iload X8.here hx rfl (hb hby dSL_46) rfl ?_
            show Steps p.tables e below (T8.setTop (mkF m 48 #[.val (.ref o0), .val (.int p1), .val (.int p2), .val (.int p3), .val (.int p4), .val (.int p5), .val (.int (127 : Int32)), .val (.int i)] [(.int p4), (.int p3), (.int p2), (.int p1), (.int ((slS st) i)), (.ref o0)])) _
            refine XS.iload X8.here hx rfl (hb hby dSL_48) rfl ?_
            show Steps p.tables e below (T8.setTop (mkF m 50 #[.val (.ref o0), .val (.int p1), .val (.int p2), .val (.int p3), .val (.int p4), .val (.int p5), .val (.int (127 : Int32)), .val (.int i)] [(.int p5), (.int p4), (.int p3), (.int p2), (.int p1), (.int ((slS st) i)), (.ref o0)])) _
            refine st10.trans ?_
            exact kt)
        by_cases hc53 : (holdsV st ((slS st) i) p1 p2 p3 p4 p5) = (0 : Int32)
        · rw [probe, if_neg hc32, if_neg (fun q => (own_holds_row _ _ _ _ _ _ _).mpr q hc53)] at hp
          obtain ⟨T', locs', X', e', N', st'⟩ := ih T10 _ _ r X10 e10 N10 (own_mask127 _) hp
          exact ⟨T', locs', X', e', N', fun t kt => pre11 t (by
              show Steps p.tables e below (T10.setTop (mkF m 53 #[.val (.ref o0), .val (.int p1), .val (.int p2), .val (.int p3), .val (.int p4), .val (.int p5), .val (.int (127 : Int32)), .val (.int i)] [(.int (holdsV st ((slS st) i) p1 p2 p3 p4 p5))])) _
              refine XS.ifNo X10.here hx rfl (hb hby dSL_53) rfl ((if0 _ _).trans (teq (show (holdsV st ((slS st) i) p1 p2 p3 p4 p5) = (0 : Int32) from hc53)).2) ?_
              show Steps p.tables e below (T10.setTop (mkF m 56 #[.val (.ref o0), .val (.int p1), .val (.int p2), .val (.int p3), .val (.int p4), .val (.int p5), .val (.int (127 : Int32)), .val (.int i)] [])) _
              refine XS.iload X10.here hx rfl (hb hby dSL_56) rfl ?_
              show Steps p.tables e below (T10.setTop (mkF m 58 #[.val (.ref o0), .val (.int p1), .val (.int p2), .val (.int p3), .val (.int p4), .val (.int p5), .val (.int (127 : Int32)), .val (.int i)] [(.int i)])) _
              refine XS.iconst X10.here hx rfl (hb hby dSL_58) ?_
              show Steps p.tables e below (T10.setTop (mkF m 59 #[.val (.ref o0), .val (.int p1), .val (.int p2), .val (.int p3), .val (.int p4), .val (.int p5), .val (.int (127 : Int32)), .val (.int i)] [(.int (1 : Int32)), (.int i)])) _
              refine XS.iadd X10.here hx rfl (hb hby dSL_59) rfl ?_
              show Steps p.tables e below (T10.setTop (mkF m 60 #[.val (.ref o0), .val (.int p1), .val (.int p2), .val (.int p3), .val (.int p4), .val (.int p5), .val (.int (127 : Int32)), .val (.int i)] [(.int (i + (1 : Int32)))])) _
              refine XS.iload X10.here hx rfl (hb hby dSL_60) rfl ?_
              show Steps p.tables e below (T10.setTop (mkF m 62 #[.val (.ref o0), .val (.int p1), .val (.int p2), .val (.int p3), .val (.int p4), .val (.int p5), .val (.int (127 : Int32)), .val (.int i)] [(.int (127 : Int32)), (.int (i + (1 : Int32)))])) _
              refine XS.iand X10.here hx rfl (hb hby dSL_62) rfl ?_
              show Steps p.tables e below (T10.setTop (mkF m 63 #[.val (.ref o0), .val (.int p1), .val (.int p2), .val (.int p3), .val (.int p4), .val (.int p5), .val (.int (127 : Int32)), .val (.int i)] [(.int ((i + (1 : Int32)) &&& (127 : Int32)))])) _
              refine XS.istore X10.here hx rfl (hb hby dSL_63) rfl (l' := #[.val (.ref o0), .val (.int p1), .val (.int p2), .val (.int p3), .val (.int p4), .val (.int p5), .val (.int (127 : Int32)), .val (.int ((i + (1 : Int32)) &&& (127 : Int32)))]) rfl ?_
              show Steps p.tables e below (T10.setTop (mkF m 65 #[.val (.ref o0), .val (.int p1), .val (.int p2), .val (.int p3), .val (.int p4), .val (.int p5), .val (.int (127 : Int32)), .val (.int ((i + (1 : Int32)) &&& (127 : Int32)))] [])) _
              refine XS.goto X10.here hx rfl (pc0 := 65) (pc' := 24) rfl (hb hby dSL_65) (by decide) (by decide) ?_
              exact st' t kt)⟩
        · rw [probe, if_neg hc32, if_pos ((own_holds_row _ _ _ _ _ _ _).mp hc53)] at hp
          obtain rfl := Option.some.inj hp
          exact ⟨T10, _, X10, e10, N10, fun t kt => pre11 t (by
              show Steps p.tables e below (T10.setTop (mkF m 53 #[.val (.ref o0), .val (.int p1), .val (.int p2), .val (.int p3), .val (.int p4), .val (.int p5), .val (.int (127 : Int32)), .val (.int i)] [(.int (holdsV st ((slS st) i) p1 p2 p3 p4 p5))])) _
              refine XS.ifYes X10.here hx rfl (pc0 := 53) (pc' := 68) rfl (hb hby dSL_53) rfl ((if0 _ _).trans (feq (show ¬ ((holdsV st ((slS st) i) p1 p2 p3 p4 p5) = (0 : Int32)) from hc53)).2) (by decide) (by decide) ?_
              exact kt)⟩
  obtain ⟨Tl, ll, Xl, el, Nl, stl⟩ := loop 8 T3 _ _ (slotV st p1 p2 p3 p4 p5) X3 e3 N3 (own_mask127 _) hF
  have pre12 : ∀ t, Steps p.tables e below (Tl.setTop (mkF m 68 #[.val (.ref o0), .val (.int p1), .val (.int p2), .val (.int p3), .val (.int p4), .val (.int p5), .val (.int (127 : Int32)), .val (.int (slotV st p1 p2 p3 p4 p5))] [])) t → Steps p.tables e below (s₁.setTop (entryFrame m #[(.ref o0), (.int p1), (.int p2), (.int p3), (.int p4), (.int p5)] 8)) t := fun t kt => pre4 t (stl t kt)
  obtain ⟨fs, hr, hrun, hended, hW, hsame⟩ := Xl.leave (v := some (.int (slotV st p1 p2 p3 p4 p5))) (fun h => by rw [Bd.returns] at h; cases h)
  refine ⟨_, _, pre12 _ ?_, hrun, hended, _, _, rfl, ?_, ⟨_, rfl⟩, hW, hsame.mono (by decide) (by decide)⟩
  · show Steps p.tables e below (Tl.setTop (mkF m 68 #[.val (.ref o0), .val (.int p1), .val (.int p2), .val (.int p3), .val (.int p4), .val (.int p5), .val (.int (127 : Int32)), .val (.int (slotV st p1 p2 p3 p4 p5))] [])) _
    refine XS.iload Xl.here hx rfl (hb hby dSL_68) rfl ?_
    show Steps p.tables e below (Tl.setTop (mkF m 70 #[.val (.ref o0), .val (.int p1), .val (.int p2), .val (.int p3), .val (.int p4), .val (.int p5), .val (.int (127 : Int32)), .val (.int (slotV st p1 p2 p3 p4 p5))] [(.int (slotV st p1 p2 p3 p4 p5))])) _
    exact retI Xl hx Bd.returns (hb hby dSL_70) hr
  · show QSL st p1 p2 p3 p4 p5 h0 n0 _ Tl.heap _
    rw [el]
    exact ⟨rfl, Nl, rfl⟩
theorem dAD_0 : decode prog_22_method_2_code 0 = .ok (.aload_n 0, 1) := by decide +kernel
theorem dAD_1 : decode prog_22_method_2_code 1 = .ok (.iload_n 1, 1) := by decide +kernel
theorem dAD_2 : decode prog_22_method_2_code 2 = .ok (.iload_n 2, 1) := by decide +kernel
theorem dAD_3 : decode prog_22_method_2_code 3 = .ok (.iload_n 3, 1) := by decide +kernel
theorem dAD_4 : decode prog_22_method_2_code 4 = .ok (.iload 4, 2) := by decide +kernel
theorem dAD_6 : decode prog_22_method_2_code 6 = .ok (.iload 5, 2) := by decide +kernel
theorem dAD_8 : decode prog_22_method_2_code 8 = .ok (.invokevirtual 32, 3) := by decide +kernel
theorem dAD_11 : decode prog_22_method_2_code 11 = .ok (.istore 6, 2) := by decide +kernel
theorem dAD_13 : decode prog_22_method_2_code 13 = .ok (.aload_n 0, 1) := by decide +kernel
theorem dAD_14 : decode prog_22_method_2_code 14 = .ok (.getfield 29, 3) := by decide +kernel
theorem dAD_17 : decode prog_22_method_2_code 17 = .ok (.iload 6, 2) := by decide +kernel
theorem dAD_19 : decode prog_22_method_2_code 19 = .ok (.iaload, 1) := by decide +kernel
theorem dAD_20 : decode prog_22_method_2_code 20 = .ok (.iconst (-1), 1) := by decide +kernel
theorem dAD_21 : decode prog_22_method_2_code 21 = .ok (.if_icmp .eq 11, 3) := by decide +kernel
theorem dAD_24 : decode prog_22_method_2_code 24 = .ok (.aload_n 0, 1) := by decide +kernel
theorem dAD_25 : decode prog_22_method_2_code 25 = .ok (.getfield 29, 3) := by decide +kernel
theorem dAD_28 : decode prog_22_method_2_code 28 = .ok (.iload 6, 2) := by decide +kernel
theorem dAD_30 : decode prog_22_method_2_code 30 = .ok (.iaload, 1) := by decide +kernel
theorem dAD_31 : decode prog_22_method_2_code 31 = .ok (.ireturn, 1) := by decide +kernel
theorem dAD_32 : decode prog_22_method_2_code 32 = .ok (.aload_n 0, 1) := by decide +kernel
theorem dAD_33 : decode prog_22_method_2_code 33 = .ok (.getfield 38, 3) := by decide +kernel
theorem dAD_36 : decode prog_22_method_2_code 36 = .ok (.aload_n 0, 1) := by decide +kernel
theorem dAD_37 : decode prog_22_method_2_code 37 = .ok (.getfield 7, 3) := by decide +kernel
theorem dAD_40 : decode prog_22_method_2_code 40 = .ok (.arraylength, 1) := by decide +kernel
theorem dAD_41 : decode prog_22_method_2_code 41 = .ok (.if_icmp .ne 76, 3) := by decide +kernel
theorem dAD_117 : decode prog_22_method_2_code 117 = .ok (.aload_n 0, 1) := by decide +kernel
theorem dAD_118 : decode prog_22_method_2_code 118 = .ok (.getfield 38, 3) := by decide +kernel
theorem dAD_121 : decode prog_22_method_2_code 121 = .ok (.istore 7, 2) := by decide +kernel
theorem dAD_123 : decode prog_22_method_2_code 123 = .ok (.aload_n 0, 1) := by decide +kernel
theorem dAD_124 : decode prog_22_method_2_code 124 = .ok (.getfield 7, 3) := by decide +kernel
theorem dAD_127 : decode prog_22_method_2_code 127 = .ok (.iload 7, 2) := by decide +kernel
theorem dAD_129 : decode prog_22_method_2_code 129 = .ok (.iload_n 1, 1) := by decide +kernel
theorem dAD_130 : decode prog_22_method_2_code 130 = .ok (.iastore, 1) := by decide +kernel
theorem dAD_131 : decode prog_22_method_2_code 131 = .ok (.aload_n 0, 1) := by decide +kernel
theorem dAD_132 : decode prog_22_method_2_code 132 = .ok (.getfield 13, 3) := by decide +kernel
theorem dAD_135 : decode prog_22_method_2_code 135 = .ok (.iload 7, 2) := by decide +kernel
theorem dAD_137 : decode prog_22_method_2_code 137 = .ok (.iload_n 2, 1) := by decide +kernel
theorem dAD_138 : decode prog_22_method_2_code 138 = .ok (.iastore, 1) := by decide +kernel
theorem dAD_139 : decode prog_22_method_2_code 139 = .ok (.aload_n 0, 1) := by decide +kernel
theorem dAD_140 : decode prog_22_method_2_code 140 = .ok (.getfield 16, 3) := by decide +kernel
theorem dAD_143 : decode prog_22_method_2_code 143 = .ok (.iload 7, 2) := by decide +kernel
theorem dAD_145 : decode prog_22_method_2_code 145 = .ok (.iload_n 3, 1) := by decide +kernel
theorem dAD_146 : decode prog_22_method_2_code 146 = .ok (.iastore, 1) := by decide +kernel
theorem dAD_147 : decode prog_22_method_2_code 147 = .ok (.aload_n 0, 1) := by decide +kernel
theorem dAD_148 : decode prog_22_method_2_code 148 = .ok (.getfield 19, 3) := by decide +kernel
theorem dAD_151 : decode prog_22_method_2_code 151 = .ok (.iload 7, 2) := by decide +kernel
theorem dAD_153 : decode prog_22_method_2_code 153 = .ok (.iload 4, 2) := by decide +kernel
theorem dAD_155 : decode prog_22_method_2_code 155 = .ok (.iastore, 1) := by decide +kernel
theorem dAD_156 : decode prog_22_method_2_code 156 = .ok (.aload_n 0, 1) := by decide +kernel
theorem dAD_157 : decode prog_22_method_2_code 157 = .ok (.getfield 22, 3) := by decide +kernel
theorem dAD_160 : decode prog_22_method_2_code 160 = .ok (.iload 7, 2) := by decide +kernel
theorem dAD_162 : decode prog_22_method_2_code 162 = .ok (.iload 5, 2) := by decide +kernel
theorem dAD_164 : decode prog_22_method_2_code 164 = .ok (.iastore, 1) := by decide +kernel
theorem dAD_165 : decode prog_22_method_2_code 165 = .ok (.aload_n 0, 1) := by decide +kernel
theorem dAD_166 : decode prog_22_method_2_code 166 = .ok (.dup, 1) := by decide +kernel
theorem dAD_167 : decode prog_22_method_2_code 167 = .ok (.getfield 38, 3) := by decide +kernel
theorem dAD_170 : decode prog_22_method_2_code 170 = .ok (.iconst 1, 1) := by decide +kernel
theorem dAD_171 : decode prog_22_method_2_code 171 = .ok (.iadd, 1) := by decide +kernel
theorem dAD_172 : decode prog_22_method_2_code 172 = .ok (.putfield 38, 3) := by decide +kernel
theorem dAD_175 : decode prog_22_method_2_code 175 = .ok (.aload_n 0, 1) := by decide +kernel
theorem dAD_176 : decode prog_22_method_2_code 176 = .ok (.getfield 29, 3) := by decide +kernel
theorem dAD_179 : decode prog_22_method_2_code 179 = .ok (.iload 6, 2) := by decide +kernel
theorem dAD_181 : decode prog_22_method_2_code 181 = .ok (.iload 7, 2) := by decide +kernel
theorem dAD_183 : decode prog_22_method_2_code 183 = .ok (.iastore, 1) := by decide +kernel
theorem dAD_184 : decode prog_22_method_2_code 184 = .ok (.aload_n 0, 1) := by decide +kernel
theorem dAD_185 : decode prog_22_method_2_code 185 = .ok (.getfield 38, 3) := by decide +kernel
theorem dAD_188 : decode prog_22_method_2_code 188 = .ok (.iconst 2, 1) := by decide +kernel
theorem dAD_189 : decode prog_22_method_2_code 189 = .ok (.imul, 1) := by decide +kernel
theorem dAD_190 : decode prog_22_method_2_code 190 = .ok (.aload_n 0, 1) := by decide +kernel
theorem dAD_191 : decode prog_22_method_2_code 191 = .ok (.getfield 29, 3) := by decide +kernel
theorem dAD_194 : decode prog_22_method_2_code 194 = .ok (.arraylength, 1) := by decide +kernel
theorem dAD_195 : decode prog_22_method_2_code 195 = .ok (.if_icmp .le 7, 3) := by decide +kernel
theorem dAD_202 : decode prog_22_method_2_code 202 = .ok (.iload 7, 2) := by decide +kernel
theorem dAD_204 : decode prog_22_method_2_code 204 = .ok (.ireturn, 1) := by decide +kernel
theorem ef_AD (m : MethodId) (o0 : Addr) (p1 : Int32) (p2 : Int32) (p3 : Int32) (p4 : Int32) (p5 : Int32) : entryFrame m #[(.ref o0), (.int p1), (.int p2), (.int p3), (.int p4), (.int p5)] 8 = mkF m 0 #[.val (.ref o0), .val (.int p1), .val (.int p2), .val (.int p3), .val (.int p4), .val (.int p5), .unset, .unset] [] := by first | (simp [entryFrame, mkF, argsToLocals, Value.category]; done) | rfl
def QAD (Z : State) (o0 cp fr lo eq hi sl : Addr) (st : NSt) (p1 p2 p3 p4 p5 : Int32) (h0 : Heap) (n0 : Nat) (v : Option Value) (h : Heap) (L : List Loc) : Prop := v = some (.int (addV st p1 p2 p3 p4 p5)) ∧ Fr n0 L ∧ Keep h0 h [o0, cp, fr, lo, eq, hi, sl] ∧ NS Z h n0 o0 cp fr lo eq hi sl (addS st p1 p2 p3 p4 p5)
set_option maxRecDepth 65536 in
set_option maxHeartbeats 40000000 in
theorem rmAD (l : Launch) (Z : State) (a0 : Array Value) (hw : ∀ d ∈ tables_1, d.before a0 Z = true) (ws : List Jvm.Cond) (o0 cp fr lo eq hi sl : Addr) (st : NSt) (p1 p2 p3 p4 p5 : Int32) (h0 : Heap) (n0 : Nat) (Z0 : n0 ≤ h0.size) (hNS : NS Z h0 n0 o0 cp fr lo eq hi sl st) (hD : Dist o0 cp fr lo eq hi sl) (hR : Ready st p1 p2 p3 p4 p5) :
    MetFree l (⟨"com/example/libforeword/libforeword/tree/NodeStore", "add", "(IIIII)I"⟩ : MethodName) (head1 (Jvm.Cond.code (⟨"com/example/libforeword/libforeword/tree/NodeStore", "add", "(IIIII)I"⟩ : MethodName) prog_22_method_2_code 8 (some .int) :: ws) ({ frames := 3, cells := 0, slots := 0, locals := 51 } : Room)) (fun a U => a = #[(.ref o0), (.int p1), (.int p2), (.int p3), (.int p4), (.int p5)] ∧ Z.Warmed39 U.vm ∧ U.heap = h0) (fun _ _ _ _ _ => True) (fun _ U o U' => ∃ v L, o = .returned v ∧ QAD Z o0 cp fr lo eq hi sl st p1 p2 p3 p4 p5 h0 n0 v U'.heap L ∧ FrameEnd U o U' L ({ frames := 3, cells := 0, slots := 0, locals := 51 } : Room).cells ({ frames := 3, cells := 0, slots := 0, locals := 51 } : Room).slots) := by
  refine MetFree.of_bodySF (plainFor_of_name pn_1) hisR ?_
  intro p e s m args below meth c s₁ Bd hml0 hP hK
  obtain ⟨rfl, hZ, hh⟩ := hP
  have hx := Bd.exec
  have hby := Bd.bytes
  have hml : c.maxLocals = 8 := hml0
  have hown : s.vm.findClass "com/example/libforeword/libforeword/tree/NodeStore" = some m.cls := findClass_of_methodNamed Bd.named
  have hnm := (name_of_methodNamed Bd.named Bd.method).1
  have X0 : Stand p l e ({ frames := 3, cells := 0, slots := 0, locals := 51 } : Room) s m #[(.ref o0), (.int p1), (.int p2), (.int p3), (.int p4), (.int p5)] below meth c s₁ [] 0 0 := Stand.of_body Bd
  have e0 : s₁.heap = h0 := by rw [← hh, Bd.state]; rfl
  have N0 := Fr.nil n0
  have pre0 : ∀ t, Steps p.tables e below (s₁.setTop (mkF m 0 #[.val (.ref o0), .val (.int p1), .val (.int p2), .val (.int p3), .val (.int p4), .val (.int p5), .unset, .unset] [])) t → Steps p.tables e below (s₁.setTop (entryFrame m #[(.ref o0), (.int p1), (.int p2), (.int p3), (.int p4), (.int p5)] 8)) t := fun t k => castTop (ef_AD m o0 p1 p2 p3 p4 p5) k
  have hNS0 := hNS
  have hD0 := hD
  obtain ⟨E_o0, F_cp, F_fr, F_lo, F_eq, F_hi, F_sl, F_size, A_cp, A_fr, A_lo, A_eq, A_hi, A_sl, g_o0, g_cp, g_fr, g_lo, g_eq, g_hi, g_sl⟩ := hNS
  obtain ⟨ne_o0_cp, ne_o0_fr, ne_o0_lo, ne_o0_eq, ne_o0_hi, ne_o0_sl, ne_cp_fr, ne_cp_lo, ne_cp_eq, ne_cp_hi, ne_cp_sl, ne_fr_lo, ne_fr_eq, ne_fr_hi, ne_fr_sl, ne_lo_eq, ne_lo_hi, ne_lo_sl, ne_eq_hi, ne_eq_sl, ne_hi_sl⟩ := hD
  have hR0 := hR
  obtain ⟨hS, hF, hn, hsl⟩ := hR0
  obtain ⟨cq1, q1, q1'⟩ := E_o0.cell
  obtain ⟨_, _, ⟨T1, L1, k1, n1⟩, -, X1, ⟨Lc1, hQ1, l1, y1, z1⟩, st1⟩ := X0.privateBack hx (y := (⟨"com/example/libforeword/libforeword/tree/NodeStore", "slot", "(IIIII)I"⟩ : MethodName)) hown (mvT hZ (hw _ (List.mem_of_getElem? (i := 38) rfl))) (mvT hZ (hw _ (List.mem_of_getElem? (i := 39) rfl))) (own_selp (y' := (⟨"com/example/libforeword/libforeword/tree/NodeStore", "add", "(IIIII)I"⟩ : MethodName)) rfl rfl (mvT hZ (hw _ (List.mem_of_getElem? (i := 36) rfl))) (mvT hZ (hw _ (List.mem_of_getElem? (i := 39) rfl))) (Cond.privateMethod_at (mvP hZ (hw _ (List.mem_of_getElem? (i := 40) rfl)) (args := #[])))) (Cond.privateMethod_at (mvP hZ (hw _ (List.mem_of_getElem? (i := 40) rfl)) (args := #[]))) (mvT hZ (hw _ (List.mem_of_getElem? (i := 41) rfl))) (by decide) (backOf (W := 0) (rmSL l Z a0 hw [] o0 cp fr lo eq hi sl st p1 p2 p3 p4 p5 h0 n0 Z0 hNS0 hD0 hR) hZ (hw _ (List.mem_of_getElem? (i := 41) rfl)) (hw _ (List.mem_of_getElem? (i := 3) rfl)) (by decide) (by decide)) (g := (mkF m 8 #[.val (.ref o0), .val (.int p1), .val (.int p2), .val (.int p3), .val (.int p4), .val (.int p5), .unset, .unset] [(.int p5), (.int p4), (.int p3), (.int p2), (.int p1), (.ref o0)])) rfl (by rw [hml]; rfl) (Steps.refl _) (a := o0) (by rw [e0]; exact q1) q1' (argsL := [(.int p1), (.int p2), (.int p3), (.int p4), (.int p5)]) (rest := []) (lenOf pd_3 rfl) rfl (by show 2 * 0 + _ ≤ _; exact Nat.le_of_eq rfl) (hb hby dAD_8) (fun _ _ => ⟨rfl, e0, (by decide : 0 + 0 ≤ _), (by decide : 0 + 0 ≤ _)⟩)
  dsimp only [Pt.U, Pt.locs, Pt.cells, Pt.slots] at X1 l1 y1 z1 st1 hQ1
  subst l1 y1 z1
  obtain ⟨rfl, N1q, e1⟩ := hQ1
  have N1 := Fr.app N0 N1q
  obtain ⟨T2, X2, e2, st2⟩ := getF X1 hx hZ hown (host := "") (Or.inl (hw _ (List.mem_of_getElem? (i := 27) rfl))) Via.refl e1 F_sl (g := (mkF m 14 #[.val (.ref o0), .val (.int p1), .val (.int p2), .val (.int p3), .val (.int p4), .val (.int p5), .val (.int (slotV st p1 p2 p3 p4 p5)), .unset] [(.ref o0)])) rfl rfl (hb hby dAD_14)
  obtain ⟨cl3, Ar3, S3, Nn3, Hh3⟩ := id A_sl
  have ib3 : ¬ ((slotV st p1 p2 p3 p4 p5)) < 0 ∧ ((slotV st p1 p2 p3 p4 p5)) < (128 : Int32) := hsl
  have pre4 : ∀ t, Steps p.tables e below (T2.setTop (mkF m 21 #[.val (.ref o0), .val (.int p1), .val (.int p2), .val (.int p3), .val (.int p4), .val (.int p5), .val (.int (slotV st p1 p2 p3 p4 p5)), .unset] [(.int (-1 : Int32)), (.int ((slS st) (slotV st p1 p2 p3 p4 p5)))])) t → Steps p.tables e below (s₁.setTop (entryFrame m #[(.ref o0), (.int p1), (.int p2), (.int p3), (.int p4), (.int p5)] 8)) t := fun t kt => pre0 t (by
      show Steps p.tables e below (s₁.setTop (mkF m 0 #[.val (.ref o0), .val (.int p1), .val (.int p2), .val (.int p3), .val (.int p4), .val (.int p5), .unset, .unset] [])) _
      refine XS.aloadN X0.here hx rfl (hb hby dAD_0) rfl rfl ?_
      show Steps p.tables e below (s₁.setTop (mkF m 1 #[.val (.ref o0), .val (.int p1), .val (.int p2), .val (.int p3), .val (.int p4), .val (.int p5), .unset, .unset] [(.ref o0)])) _
      refine XS.iloadN X0.here hx rfl (hb hby dAD_1) rfl ?_
      show Steps p.tables e below (s₁.setTop (mkF m 2 #[.val (.ref o0), .val (.int p1), .val (.int p2), .val (.int p3), .val (.int p4), .val (.int p5), .unset, .unset] [(.int p1), (.ref o0)])) _
      refine XS.iloadN X0.here hx rfl (hb hby dAD_2) rfl ?_
      show Steps p.tables e below (s₁.setTop (mkF m 3 #[.val (.ref o0), .val (.int p1), .val (.int p2), .val (.int p3), .val (.int p4), .val (.int p5), .unset, .unset] [(.int p2), (.int p1), (.ref o0)])) _
      refine XS.iloadN X0.here hx rfl (hb hby dAD_3) rfl ?_
      show Steps p.tables e below (s₁.setTop (mkF m 4 #[.val (.ref o0), .val (.int p1), .val (.int p2), .val (.int p3), .val (.int p4), .val (.int p5), .unset, .unset] [(.int p3), (.int p2), (.int p1), (.ref o0)])) _
      refine XS.iload X0.here hx rfl (hb hby dAD_4) rfl ?_
      show Steps p.tables e below (s₁.setTop (mkF m 6 #[.val (.ref o0), .val (.int p1), .val (.int p2), .val (.int p3), .val (.int p4), .val (.int p5), .unset, .unset] [(.int p4), (.int p3), (.int p2), (.int p1), (.ref o0)])) _
      refine XS.iload X0.here hx rfl (hb hby dAD_6) rfl ?_
      show Steps p.tables e below (s₁.setTop (mkF m 8 #[.val (.ref o0), .val (.int p1), .val (.int p2), .val (.int p3), .val (.int p4), .val (.int p5), .unset, .unset] [(.int p5), (.int p4), (.int p3), (.int p2), (.int p1), (.ref o0)])) _
      refine st1.trans ?_
      show Steps p.tables e below (T1.setTop (mkF m 11 #[.val (.ref o0), .val (.int p1), .val (.int p2), .val (.int p3), .val (.int p4), .val (.int p5), .unset, .unset] [(.int (slotV st p1 p2 p3 p4 p5))])) _
      refine XS.istore X1.here hx rfl (hb hby dAD_11) rfl (l' := #[.val (.ref o0), .val (.int p1), .val (.int p2), .val (.int p3), .val (.int p4), .val (.int p5), .val (.int (slotV st p1 p2 p3 p4 p5)), .unset]) rfl ?_
      show Steps p.tables e below (T1.setTop (mkF m 13 #[.val (.ref o0), .val (.int p1), .val (.int p2), .val (.int p3), .val (.int p4), .val (.int p5), .val (.int (slotV st p1 p2 p3 p4 p5)), .unset] [])) _
      refine XS.aloadN X1.here hx rfl (hb hby dAD_13) rfl rfl ?_
      show Steps p.tables e below (T1.setTop (mkF m 14 #[.val (.ref o0), .val (.int p1), .val (.int p2), .val (.int p3), .val (.int p4), .val (.int p5), .val (.int (slotV st p1 p2 p3 p4 p5)), .unset] [(.ref o0)])) _
      refine st2 _ ?_
      show Steps p.tables e below (T2.setTop (mkF m 17 #[.val (.ref o0), .val (.int p1), .val (.int p2), .val (.int p3), .val (.int p4), .val (.int p5), .val (.int (slotV st p1 p2 p3 p4 p5)), .unset] [(.ref sl)])) _
      refine XS.iload X2.here hx rfl (hb hby dAD_17) rfl ?_
      show Steps p.tables e below (T2.setTop (mkF m 19 #[.val (.ref o0), .val (.int p1), .val (.int p2), .val (.int p3), .val (.int p4), .val (.int p5), .val (.int (slotV st p1 p2 p3 p4 p5)), .unset] [(.int (slotV st p1 p2 p3 p4 p5)), (.ref sl)])) _
      refine X2.iaload hx (j := (slotV st p1 p2 p3 p4 p5)) (v := (.int ((slS st) (slotV st p1 p2 p3 p4 p5)))) (by rw [e2]; exact Ar3.1) (State.isArrayOf_alike hZ.alike Ar3.2.1) Ar3.2.2 (inb_of S3 ib3) (Hh3 _ ib3.1 ib3.2) (g := (mkF m 19 #[.val (.ref o0), .val (.int p1), .val (.int p2), .val (.int p3), .val (.int p4), .val (.int p5), .val (.int (slotV st p1 p2 p3 p4 p5)), .unset] [(.int (slotV st p1 p2 p3 p4 p5)), (.ref sl)])) rfl rfl (hb hby dAD_19) _ ?_
      show Steps p.tables e below (T2.setTop (mkF m 20 #[.val (.ref o0), .val (.int p1), .val (.int p2), .val (.int p3), .val (.int p4), .val (.int p5), .val (.int (slotV st p1 p2 p3 p4 p5)), .unset] [(.int ((slS st) (slotV st p1 p2 p3 p4 p5)))])) _
      refine XS.iconst X2.here hx rfl (hb hby dAD_20) ?_
      exact kt)
  by_cases hc21 : ((slS st) (slotV st p1 p2 p3 p4 p5)) = (-1 : Int32)
  · obtain ⟨T5, X5, e5, st5⟩ := getF X2 hx hZ hown (host := "") (Or.inl (hw _ (List.mem_of_getElem? (i := 50) rfl))) Via.refl e2 F_size (g := (mkF m 33 #[.val (.ref o0), .val (.int p1), .val (.int p2), .val (.int p3), .val (.int p4), .val (.int p5), .val (.int (slotV st p1 p2 p3 p4 p5)), .unset] [(.ref o0)])) rfl rfl (hb hby dAD_33)
    obtain ⟨T6, X6, e6, st6⟩ := getF X5 hx hZ hown (host := "") (Or.inl (hw _ (List.mem_of_getElem? (i := 10) rfl))) Via.refl e5 F_cp (g := (mkF m 37 #[.val (.ref o0), .val (.int p1), .val (.int p2), .val (.int p3), .val (.int p4), .val (.int p5), .val (.int (slotV st p1 p2 p3 p4 p5)), .unset] [(.ref o0), (.int (nS st))])) rfl rfl (hb hby dAD_37)
    obtain ⟨cl7, Ar7, S7, Nn7, -⟩ := id A_cp
    obtain ⟨T8, X8, e8, st8⟩ := getF X6 hx hZ hown (host := "") (Or.inl (hw _ (List.mem_of_getElem? (i := 50) rfl))) Via.refl e6 F_size (g := (mkF m 118 #[.val (.ref o0), .val (.int p1), .val (.int p2), .val (.int p3), .val (.int p4), .val (.int p5), .val (.int (slotV st p1 p2 p3 p4 p5)), .unset] [(.ref o0)])) rfl rfl (hb hby dAD_118)
    obtain ⟨T9, X9, e9, st9⟩ := getF X8 hx hZ hown (host := "") (Or.inl (hw _ (List.mem_of_getElem? (i := 10) rfl))) Via.refl e8 F_cp (g := (mkF m 124 #[.val (.ref o0), .val (.int p1), .val (.int p2), .val (.int p3), .val (.int p4), .val (.int p5), .val (.int (slotV st p1 p2 p3 p4 p5)), .val (.int (nS st))] [(.ref o0)])) rfl rfl (hb hby dAD_124)
    obtain ⟨cl10, Ar10, S10, Nn10, Hh10⟩ := id A_cp
    have ib10 : ¬ ((nS st)) < 0 ∧ ((nS st)) < (64 : Int32) := (own_nlt hn)
    obtain ⟨T11, h11, X11, e11, W11, st11⟩ := stI X9 hx hZ e9 Ar10 (j := (nS st)) (inb_of S10 ib10) (g := (mkF m 130 #[.val (.ref o0), .val (.int p1), .val (.int p2), .val (.int p3), .val (.int p4), .val (.int p5), .val (.int (slotV st p1 p2 p3 p4 p5)), .val (.int (nS st))] [(.int p1), (.int (nS st)), (.ref cp)])) rfl rfl (hb hby dAD_130)
    have V11 : ArF Z h11 cp (64 : Int32) (upd (cpS st) (nS st) p1) := own_arf_set Ar10 S10 Nn10 Hh10 W11 ib10
    have K11 : Keep h0 h11 [o0, cp, fr, lo, eq, hi, sl] := Keep.wr (Keep.refl h0 [o0, cp, fr, lo, eq, hi, sl]) W11 (Or.inl (List.mem_of_getElem? (i := 1) rfl))
    have Z11 : n0 ≤ h11.size := Nat.le_trans Z0 K11.1
    have N11 := Fr.snoc X11 N1 g_cp
    have f12 := (F_fr.other W11 (Or.inl ne_o0_cp))
    obtain ⟨T13, X13, e13, st13⟩ := getF X11 hx hZ hown (host := "") (Or.inl (hw _ (List.mem_of_getElem? (i := 12) rfl))) Via.refl e11 f12 (g := (mkF m 132 #[.val (.ref o0), .val (.int p1), .val (.int p2), .val (.int p3), .val (.int p4), .val (.int p5), .val (.int (slotV st p1 p2 p3 p4 p5)), .val (.int (nS st))] [(.ref o0)])) rfl rfl (hb hby dAD_132)
    have f14 := (A_fr.other W11 (Ne.symm ne_cp_fr))
    obtain ⟨cl15, Ar15, S15, Nn15, Hh15⟩ := id f14
    have ib15 : ¬ ((nS st)) < 0 ∧ ((nS st)) < (64 : Int32) := (own_nlt hn)
    obtain ⟨T16, h16, X16, e16, W16, st16⟩ := stI X13 hx hZ e13 Ar15 (j := (nS st)) (inb_of S15 ib15) (g := (mkF m 138 #[.val (.ref o0), .val (.int p1), .val (.int p2), .val (.int p3), .val (.int p4), .val (.int p5), .val (.int (slotV st p1 p2 p3 p4 p5)), .val (.int (nS st))] [(.int p2), (.int (nS st)), (.ref fr)])) rfl rfl (hb hby dAD_138)
    have V16 : ArF Z h16 fr (64 : Int32) (upd (frS st) (nS st) p2) := own_arf_set Ar15 S15 Nn15 Hh15 W16 ib15
    have K16 : Keep h0 h16 [o0, cp, fr, lo, eq, hi, sl] := Keep.wr K11 W16 (Or.inl (List.mem_of_getElem? (i := 2) rfl))
    have Z16 : n0 ≤ h16.size := Nat.le_trans Z0 K16.1
    have N16 := Fr.snoc X16 N11 g_fr
    have f17 := ((F_lo.other W11 (Or.inl ne_o0_cp)).other W16 (Or.inl ne_o0_fr))
    obtain ⟨T18, X18, e18, st18⟩ := getF X16 hx hZ hown (host := "") (Or.inl (hw _ (List.mem_of_getElem? (i := 14) rfl))) Via.refl e16 f17 (g := (mkF m 140 #[.val (.ref o0), .val (.int p1), .val (.int p2), .val (.int p3), .val (.int p4), .val (.int p5), .val (.int (slotV st p1 p2 p3 p4 p5)), .val (.int (nS st))] [(.ref o0)])) rfl rfl (hb hby dAD_140)
    have f19 := ((A_lo.other W11 (Ne.symm ne_cp_lo)).other W16 (Ne.symm ne_fr_lo))
    obtain ⟨cl20, Ar20, S20, Nn20, Hh20⟩ := id f19
    have ib20 : ¬ ((nS st)) < 0 ∧ ((nS st)) < (64 : Int32) := (own_nlt hn)
    obtain ⟨T21, h21, X21, e21, W21, st21⟩ := stI X18 hx hZ e18 Ar20 (j := (nS st)) (inb_of S20 ib20) (g := (mkF m 146 #[.val (.ref o0), .val (.int p1), .val (.int p2), .val (.int p3), .val (.int p4), .val (.int p5), .val (.int (slotV st p1 p2 p3 p4 p5)), .val (.int (nS st))] [(.int p3), (.int (nS st)), (.ref lo)])) rfl rfl (hb hby dAD_146)
    have V21 : ArF Z h21 lo (64 : Int32) (upd (loS st) (nS st) p3) := own_arf_set Ar20 S20 Nn20 Hh20 W21 ib20
    have K21 : Keep h0 h21 [o0, cp, fr, lo, eq, hi, sl] := Keep.wr K16 W21 (Or.inl (List.mem_of_getElem? (i := 3) rfl))
    have Z21 : n0 ≤ h21.size := Nat.le_trans Z0 K21.1
    have N21 := Fr.snoc X21 N16 g_lo
    have f22 := (((F_eq.other W11 (Or.inl ne_o0_cp)).other W16 (Or.inl ne_o0_fr)).other W21 (Or.inl ne_o0_lo))
    obtain ⟨T23, X23, e23, st23⟩ := getF X21 hx hZ hown (host := "") (Or.inl (hw _ (List.mem_of_getElem? (i := 16) rfl))) Via.refl e21 f22 (g := (mkF m 148 #[.val (.ref o0), .val (.int p1), .val (.int p2), .val (.int p3), .val (.int p4), .val (.int p5), .val (.int (slotV st p1 p2 p3 p4 p5)), .val (.int (nS st))] [(.ref o0)])) rfl rfl (hb hby dAD_148)
    have f24 := (((A_eq.other W11 (Ne.symm ne_cp_eq)).other W16 (Ne.symm ne_fr_eq)).other W21 (Ne.symm ne_lo_eq))
    obtain ⟨cl25, Ar25, S25, Nn25, Hh25⟩ := id f24
    have ib25 : ¬ ((nS st)) < 0 ∧ ((nS st)) < (64 : Int32) := (own_nlt hn)
    obtain ⟨T26, h26, X26, e26, W26, st26⟩ := stI X23 hx hZ e23 Ar25 (j := (nS st)) (inb_of S25 ib25) (g := (mkF m 155 #[.val (.ref o0), .val (.int p1), .val (.int p2), .val (.int p3), .val (.int p4), .val (.int p5), .val (.int (slotV st p1 p2 p3 p4 p5)), .val (.int (nS st))] [(.int p4), (.int (nS st)), (.ref eq)])) rfl rfl (hb hby dAD_155)
    have V26 : ArF Z h26 eq (64 : Int32) (upd (eqS st) (nS st) p4) := own_arf_set Ar25 S25 Nn25 Hh25 W26 ib25
    have K26 : Keep h0 h26 [o0, cp, fr, lo, eq, hi, sl] := Keep.wr K21 W26 (Or.inl (List.mem_of_getElem? (i := 4) rfl))
    have Z26 : n0 ≤ h26.size := Nat.le_trans Z0 K26.1
    have N26 := Fr.snoc X26 N21 g_eq
    have f27 := ((((F_hi.other W11 (Or.inl ne_o0_cp)).other W16 (Or.inl ne_o0_fr)).other W21 (Or.inl ne_o0_lo)).other W26 (Or.inl ne_o0_eq))
    obtain ⟨T28, X28, e28, st28⟩ := getF X26 hx hZ hown (host := "") (Or.inl (hw _ (List.mem_of_getElem? (i := 18) rfl))) Via.refl e26 f27 (g := (mkF m 157 #[.val (.ref o0), .val (.int p1), .val (.int p2), .val (.int p3), .val (.int p4), .val (.int p5), .val (.int (slotV st p1 p2 p3 p4 p5)), .val (.int (nS st))] [(.ref o0)])) rfl rfl (hb hby dAD_157)
    have f29 := ((((A_hi.other W11 (Ne.symm ne_cp_hi)).other W16 (Ne.symm ne_fr_hi)).other W21 (Ne.symm ne_lo_hi)).other W26 (Ne.symm ne_eq_hi))
    obtain ⟨cl30, Ar30, S30, Nn30, Hh30⟩ := id f29
    have ib30 : ¬ ((nS st)) < 0 ∧ ((nS st)) < (64 : Int32) := (own_nlt hn)
    obtain ⟨T31, h31, X31, e31, W31, st31⟩ := stI X28 hx hZ e28 Ar30 (j := (nS st)) (inb_of S30 ib30) (g := (mkF m 164 #[.val (.ref o0), .val (.int p1), .val (.int p2), .val (.int p3), .val (.int p4), .val (.int p5), .val (.int (slotV st p1 p2 p3 p4 p5)), .val (.int (nS st))] [(.int p5), (.int (nS st)), (.ref hi)])) rfl rfl (hb hby dAD_164)
    have V31 : ArF Z h31 hi (64 : Int32) (upd (hiS st) (nS st) p5) := own_arf_set Ar30 S30 Nn30 Hh30 W31 ib30
    have K31 : Keep h0 h31 [o0, cp, fr, lo, eq, hi, sl] := Keep.wr K26 W31 (Or.inl (List.mem_of_getElem? (i := 5) rfl))
    have Z31 : n0 ≤ h31.size := Nat.le_trans Z0 K31.1
    have N31 := Fr.snoc X31 N26 g_hi
    have f32 := (((((F_size.other W11 (Or.inl ne_o0_cp)).other W16 (Or.inl ne_o0_fr)).other W21 (Or.inl ne_o0_lo)).other W26 (Or.inl ne_o0_eq)).other W31 (Or.inl ne_o0_hi))
    obtain ⟨T33, X33, e33, st33⟩ := getF X31 hx hZ hown (host := "") (Or.inl (hw _ (List.mem_of_getElem? (i := 50) rfl))) Via.refl e31 f32 (g := (mkF m 167 #[.val (.ref o0), .val (.int p1), .val (.int p2), .val (.int p3), .val (.int p4), .val (.int p5), .val (.int (slotV st p1 p2 p3 p4 p5)), .val (.int (nS st))] [(.ref o0), (.ref o0)])) rfl rfl (hb hby dAD_167)
    have f34 := (((((E_o0.wr W11).wr W16).wr W21).wr W26).wr W31)
    obtain ⟨T35, h35, X35, e35, W35, st35⟩ := putF X33 hx hZ hown (host := "") (Or.inl (hw _ (List.mem_of_getElem? (i := 50) rfl))) Via.refl e33 f32 f34 (Or.inl (hw _ (List.mem_of_getElem? (i := 51) rfl))) (hw _ (List.mem_of_getElem? (i := 2) rfl)) (ty := .int) (by decide) rfl rfl (g := (mkF m 172 #[.val (.ref o0), .val (.int p1), .val (.int p2), .val (.int p3), .val (.int p4), .val (.int p5), .val (.int (slotV st p1 p2 p3 p4 p5)), .val (.int (nS st))] [(.int ((nS st) + (1 : Int32))), (.ref o0)])) rfl rfl (hb hby dAD_172)
    have Fw35 := f32.same W35
    have K35 : Keep h0 h35 [o0, cp, fr, lo, eq, hi, sl] := Keep.wr K31 W35 (Or.inl (List.mem_of_getElem? (i := 0) rfl))
    have Z35 : n0 ≤ h35.size := Nat.le_trans Z0 K35.1
    have N35 := Fr.snoc X35 N31 g_o0
    have f36 := ((((((F_sl.other W11 (Or.inl ne_o0_cp)).other W16 (Or.inl ne_o0_fr)).other W21 (Or.inl ne_o0_lo)).other W26 (Or.inl ne_o0_eq)).other W31 (Or.inl ne_o0_hi)).other W35 (Or.inr (slot_ne (Or.inl (hw _ (List.mem_of_getElem? (i := 28) rfl))) (Or.inl (hw _ (List.mem_of_getElem? (i := 51) rfl))) (by decide) (t := (.array .int)) (t' := .int) (by decide) (by decide))))
    obtain ⟨T37, X37, e37, st37⟩ := getF X35 hx hZ hown (host := "") (Or.inl (hw _ (List.mem_of_getElem? (i := 27) rfl))) Via.refl e35 f36 (g := (mkF m 176 #[.val (.ref o0), .val (.int p1), .val (.int p2), .val (.int p3), .val (.int p4), .val (.int p5), .val (.int (slotV st p1 p2 p3 p4 p5)), .val (.int (nS st))] [(.ref o0)])) rfl rfl (hb hby dAD_176)
    have f38 := ((((((A_sl.other W11 (Ne.symm ne_cp_sl)).other W16 (Ne.symm ne_fr_sl)).other W21 (Ne.symm ne_lo_sl)).other W26 (Ne.symm ne_eq_sl)).other W31 (Ne.symm ne_hi_sl)).other W35 (Ne.symm ne_o0_sl))
    obtain ⟨cl39, Ar39, S39, Nn39, Hh39⟩ := id f38
    have ib39 : ¬ ((slotV st p1 p2 p3 p4 p5)) < 0 ∧ ((slotV st p1 p2 p3 p4 p5)) < (128 : Int32) := hsl
    obtain ⟨T40, h40, X40, e40, W40, st40⟩ := stI X37 hx hZ e37 Ar39 (j := (slotV st p1 p2 p3 p4 p5)) (inb_of S39 ib39) (g := (mkF m 183 #[.val (.ref o0), .val (.int p1), .val (.int p2), .val (.int p3), .val (.int p4), .val (.int p5), .val (.int (slotV st p1 p2 p3 p4 p5)), .val (.int (nS st))] [(.int (nS st)), (.int (slotV st p1 p2 p3 p4 p5)), (.ref sl)])) rfl rfl (hb hby dAD_183)
    have V40 : ArF Z h40 sl (128 : Int32) (upd (slS st) (slotV st p1 p2 p3 p4 p5) (nS st)) := own_arf_set Ar39 S39 Nn39 Hh39 W40 ib39
    have K40 : Keep h0 h40 [o0, cp, fr, lo, eq, hi, sl] := Keep.wr K35 W40 (Or.inl (List.mem_of_getElem? (i := 6) rfl))
    have Z40 : n0 ≤ h40.size := Nat.le_trans Z0 K40.1
    have N40 := Fr.snoc X40 N35 g_sl
    have f41 := (Fw35.other W40 (Or.inl ne_o0_sl))
    obtain ⟨T42, X42, e42, st42⟩ := getF X40 hx hZ hown (host := "") (Or.inl (hw _ (List.mem_of_getElem? (i := 50) rfl))) Via.refl e40 f41 (g := (mkF m 185 #[.val (.ref o0), .val (.int p1), .val (.int p2), .val (.int p3), .val (.int p4), .val (.int p5), .val (.int (slotV st p1 p2 p3 p4 p5)), .val (.int (nS st))] [(.ref o0)])) rfl rfl (hb hby dAD_185)
    have f43 := (f36.other W40 (Or.inl ne_o0_sl))
    obtain ⟨T44, X44, e44, st44⟩ := getF X42 hx hZ hown (host := "") (Or.inl (hw _ (List.mem_of_getElem? (i := 27) rfl))) Via.refl e42 f43 (g := (mkF m 191 #[.val (.ref o0), .val (.int p1), .val (.int p2), .val (.int p3), .val (.int p4), .val (.int p5), .val (.int (slotV st p1 p2 p3 p4 p5)), .val (.int (nS st))] [(.ref o0), (.int (((nS st) + (1 : Int32)) * (2 : Int32)))])) rfl rfl (hb hby dAD_191)
    obtain ⟨cl45, Ar45, S45, Nn45, -⟩ := id V40
    have f46 := ((f34.wr W35).wr W40)
    have f47 := (((((((F_cp.other W11 (Or.inl ne_o0_cp)).other W16 (Or.inl ne_o0_fr)).other W21 (Or.inl ne_o0_lo)).other W26 (Or.inl ne_o0_eq)).other W31 (Or.inl ne_o0_hi)).other W35 (Or.inr (slot_ne (Or.inl (hw _ (List.mem_of_getElem? (i := 11) rfl))) (Or.inl (hw _ (List.mem_of_getElem? (i := 51) rfl))) (by decide) (t := (.array .int)) (t' := .int) (by decide) (by decide)))).other W40 (Or.inl ne_o0_sl))
    have f48 := ((((((f12.other W16 (Or.inl ne_o0_fr)).other W21 (Or.inl ne_o0_lo)).other W26 (Or.inl ne_o0_eq)).other W31 (Or.inl ne_o0_hi)).other W35 (Or.inr (slot_ne (Or.inl (hw _ (List.mem_of_getElem? (i := 13) rfl))) (Or.inl (hw _ (List.mem_of_getElem? (i := 51) rfl))) (by decide) (t := (.array .int)) (t' := .int) (by decide) (by decide)))).other W40 (Or.inl ne_o0_sl))
    have f49 := (((((f17.other W21 (Or.inl ne_o0_lo)).other W26 (Or.inl ne_o0_eq)).other W31 (Or.inl ne_o0_hi)).other W35 (Or.inr (slot_ne (Or.inl (hw _ (List.mem_of_getElem? (i := 15) rfl))) (Or.inl (hw _ (List.mem_of_getElem? (i := 51) rfl))) (by decide) (t := (.array .int)) (t' := .int) (by decide) (by decide)))).other W40 (Or.inl ne_o0_sl))
    have f50 := ((((f22.other W26 (Or.inl ne_o0_eq)).other W31 (Or.inl ne_o0_hi)).other W35 (Or.inr (slot_ne (Or.inl (hw _ (List.mem_of_getElem? (i := 17) rfl))) (Or.inl (hw _ (List.mem_of_getElem? (i := 51) rfl))) (by decide) (t := (.array .int)) (t' := .int) (by decide) (by decide)))).other W40 (Or.inl ne_o0_sl))
    have f51 := (((f27.other W31 (Or.inl ne_o0_hi)).other W35 (Or.inr (slot_ne (Or.inl (hw _ (List.mem_of_getElem? (i := 19) rfl))) (Or.inl (hw _ (List.mem_of_getElem? (i := 51) rfl))) (by decide) (t := (.array .int)) (t' := .int) (by decide) (by decide)))).other W40 (Or.inl ne_o0_sl))
    have f52 := ((((((V11.other W16 ne_cp_fr).other W21 ne_cp_lo).other W26 ne_cp_eq).other W31 ne_cp_hi).other W35 (Ne.symm ne_o0_cp)).other W40 ne_cp_sl)
    have f53 := (((((V16.other W21 ne_fr_lo).other W26 ne_fr_eq).other W31 ne_fr_hi).other W35 (Ne.symm ne_o0_fr)).other W40 ne_fr_sl)
    have f54 := ((((V21.other W26 ne_lo_eq).other W31 ne_lo_hi).other W35 (Ne.symm ne_o0_lo)).other W40 ne_lo_sl)
    have f55 := (((V26.other W31 ne_eq_hi).other W35 (Ne.symm ne_o0_eq)).other W40 ne_eq_sl)
    have f56 := ((V31.other W35 (Ne.symm ne_o0_hi)).other W40 ne_hi_sl)
    obtain ⟨fs, hr, hrun, hended, hW, hsame⟩ := X44.leave (v := some (.int (nS st))) (fun h => by rw [Bd.returns] at h; cases h)
    refine ⟨_, _, pre4 _ ?_, hrun, hended, _, _, rfl, ?_, ⟨_, rfl⟩, hW, hsame.mono (by decide) (by decide)⟩
    · show Steps p.tables e below (T2.setTop (mkF m 21 #[.val (.ref o0), .val (.int p1), .val (.int p2), .val (.int p3), .val (.int p4), .val (.int p5), .val (.int (slotV st p1 p2 p3 p4 p5)), .unset] [(.int (-1 : Int32)), (.int ((slS st) (slotV st p1 p2 p3 p4 p5)))])) _
      refine XS.icmpYes X2.here hx rfl (pc0 := 21) (pc' := 32) rfl (hb hby dAD_21) rfl (teq (show ((slS st) (slotV st p1 p2 p3 p4 p5)) = (-1 : Int32) from hc21)).1 (by decide) (by decide) ?_
      show Steps p.tables e below (T2.setTop (mkF m 32 #[.val (.ref o0), .val (.int p1), .val (.int p2), .val (.int p3), .val (.int p4), .val (.int p5), .val (.int (slotV st p1 p2 p3 p4 p5)), .unset] [])) _
      refine XS.aloadN X2.here hx rfl (hb hby dAD_32) rfl rfl ?_
      show Steps p.tables e below (T2.setTop (mkF m 33 #[.val (.ref o0), .val (.int p1), .val (.int p2), .val (.int p3), .val (.int p4), .val (.int p5), .val (.int (slotV st p1 p2 p3 p4 p5)), .unset] [(.ref o0)])) _
      refine st5 _ ?_
      show Steps p.tables e below (T5.setTop (mkF m 36 #[.val (.ref o0), .val (.int p1), .val (.int p2), .val (.int p3), .val (.int p4), .val (.int p5), .val (.int (slotV st p1 p2 p3 p4 p5)), .unset] [(.int (nS st))])) _
      refine XS.aloadN X5.here hx rfl (hb hby dAD_36) rfl rfl ?_
      show Steps p.tables e below (T5.setTop (mkF m 37 #[.val (.ref o0), .val (.int p1), .val (.int p2), .val (.int p3), .val (.int p4), .val (.int p5), .val (.int (slotV st p1 p2 p3 p4 p5)), .unset] [(.ref o0), (.int (nS st))])) _
      refine st6 _ ?_
      show Steps p.tables e below (T6.setTop (mkF m 40 #[.val (.ref o0), .val (.int p1), .val (.int p2), .val (.int p3), .val (.int p4), .val (.int p5), .val (.int (slotV st p1 p2 p3 p4 p5)), .unset] [(.ref cp), (.int (nS st))])) _
      refine X6.arraylength hx (by rw [e6]; exact Ar7.1) (State.isArrayOf_alike hZ.alike Ar7.2.1) (g := (mkF m 40 #[.val (.ref o0), .val (.int p1), .val (.int p2), .val (.int p3), .val (.int p4), .val (.int p5), .val (.int (slotV st p1 p2 p3 p4 p5)), .unset] [(.ref cp), (.int (nS st))])) rfl rfl (hb hby dAD_40) _ ?_
      rw [len_of S7 Nn7]
      show Steps p.tables e below (T6.setTop (mkF m 41 #[.val (.ref o0), .val (.int p1), .val (.int p2), .val (.int p3), .val (.int p4), .val (.int p5), .val (.int (slotV st p1 p2 p3 p4 p5)), .unset] [(.int (64 : Int32)), (.int (nS st))])) _
      refine XS.icmpYes X6.here hx rfl (pc0 := 41) (pc' := 117) rfl (hb hby dAD_41) rfl (feq (show ¬ ((nS st) = (64 : Int32)) from (own_n64 hn))).2 (by decide) (by decide) ?_
      show Steps p.tables e below (T6.setTop (mkF m 117 #[.val (.ref o0), .val (.int p1), .val (.int p2), .val (.int p3), .val (.int p4), .val (.int p5), .val (.int (slotV st p1 p2 p3 p4 p5)), .unset] [])) _
      refine XS.aloadN X6.here hx rfl (hb hby dAD_117) rfl rfl ?_
      show Steps p.tables e below (T6.setTop (mkF m 118 #[.val (.ref o0), .val (.int p1), .val (.int p2), .val (.int p3), .val (.int p4), .val (.int p5), .val (.int (slotV st p1 p2 p3 p4 p5)), .unset] [(.ref o0)])) _
      refine st8 _ ?_
      show Steps p.tables e below (T8.setTop (mkF m 121 #[.val (.ref o0), .val (.int p1), .val (.int p2), .val (.int p3), .val (.int p4), .val (.int p5), .val (.int (slotV st p1 p2 p3 p4 p5)), .unset] [(.int (nS st))])) _
      refine XS.istore X8.here hx rfl (hb hby dAD_121) rfl (l' := #[.val (.ref o0), .val (.int p1), .val (.int p2), .val (.int p3), .val (.int p4), .val (.int p5), .val (.int (slotV st p1 p2 p3 p4 p5)), .val (.int (nS st))]) rfl ?_
      show Steps p.tables e below (T8.setTop (mkF m 123 #[.val (.ref o0), .val (.int p1), .val (.int p2), .val (.int p3), .val (.int p4), .val (.int p5), .val (.int (slotV st p1 p2 p3 p4 p5)), .val (.int (nS st))] [])) _
      refine XS.aloadN X8.here hx rfl (hb hby dAD_123) rfl rfl ?_
      show Steps p.tables e below (T8.setTop (mkF m 124 #[.val (.ref o0), .val (.int p1), .val (.int p2), .val (.int p3), .val (.int p4), .val (.int p5), .val (.int (slotV st p1 p2 p3 p4 p5)), .val (.int (nS st))] [(.ref o0)])) _
      refine st9 _ ?_
      show Steps p.tables e below (T9.setTop (mkF m 127 #[.val (.ref o0), .val (.int p1), .val (.int p2), .val (.int p3), .val (.int p4), .val (.int p5), .val (.int (slotV st p1 p2 p3 p4 p5)), .val (.int (nS st))] [(.ref cp)])) _
      refine XS.iload X9.here hx rfl (hb hby dAD_127) rfl ?_
      show Steps p.tables e below (T9.setTop (mkF m 129 #[.val (.ref o0), .val (.int p1), .val (.int p2), .val (.int p3), .val (.int p4), .val (.int p5), .val (.int (slotV st p1 p2 p3 p4 p5)), .val (.int (nS st))] [(.int (nS st)), (.ref cp)])) _
      refine XS.iloadN X9.here hx rfl (hb hby dAD_129) rfl ?_
      show Steps p.tables e below (T9.setTop (mkF m 130 #[.val (.ref o0), .val (.int p1), .val (.int p2), .val (.int p3), .val (.int p4), .val (.int p5), .val (.int (slotV st p1 p2 p3 p4 p5)), .val (.int (nS st))] [(.int p1), (.int (nS st)), (.ref cp)])) _
      refine st11 _ ?_
      show Steps p.tables e below (T11.setTop (mkF m 131 #[.val (.ref o0), .val (.int p1), .val (.int p2), .val (.int p3), .val (.int p4), .val (.int p5), .val (.int (slotV st p1 p2 p3 p4 p5)), .val (.int (nS st))] [])) _
      refine XS.aloadN X11.here hx rfl (hb hby dAD_131) rfl rfl ?_
      show Steps p.tables e below (T11.setTop (mkF m 132 #[.val (.ref o0), .val (.int p1), .val (.int p2), .val (.int p3), .val (.int p4), .val (.int p5), .val (.int (slotV st p1 p2 p3 p4 p5)), .val (.int (nS st))] [(.ref o0)])) _
      refine st13 _ ?_
      show Steps p.tables e below (T13.setTop (mkF m 135 #[.val (.ref o0), .val (.int p1), .val (.int p2), .val (.int p3), .val (.int p4), .val (.int p5), .val (.int (slotV st p1 p2 p3 p4 p5)), .val (.int (nS st))] [(.ref fr)])) _
      refine XS.iload X13.here hx rfl (hb hby dAD_135) rfl ?_
      show Steps p.tables e below (T13.setTop (mkF m 137 #[.val (.ref o0), .val (.int p1), .val (.int p2), .val (.int p3), .val (.int p4), .val (.int p5), .val (.int (slotV st p1 p2 p3 p4 p5)), .val (.int (nS st))] [(.int (nS st)), (.ref fr)])) _
      refine XS.iloadN X13.here hx rfl (hb hby dAD_137) rfl ?_
      show Steps p.tables e below (T13.setTop (mkF m 138 #[.val (.ref o0), .val (.int p1), .val (.int p2), .val (.int p3), .val (.int p4), .val (.int p5), .val (.int (slotV st p1 p2 p3 p4 p5)), .val (.int (nS st))] [(.int p2), (.int (nS st)), (.ref fr)])) _
      refine st16 _ ?_
      show Steps p.tables e below (T16.setTop (mkF m 139 #[.val (.ref o0), .val (.int p1), .val (.int p2), .val (.int p3), .val (.int p4), .val (.int p5), .val (.int (slotV st p1 p2 p3 p4 p5)), .val (.int (nS st))] [])) _
      refine XS.aloadN X16.here hx rfl (hb hby dAD_139) rfl rfl ?_
      show Steps p.tables e below (T16.setTop (mkF m 140 #[.val (.ref o0), .val (.int p1), .val (.int p2), .val (.int p3), .val (.int p4), .val (.int p5), .val (.int (slotV st p1 p2 p3 p4 p5)), .val (.int (nS st))] [(.ref o0)])) _
      refine st18 _ ?_
      show Steps p.tables e below (T18.setTop (mkF m 143 #[.val (.ref o0), .val (.int p1), .val (.int p2), .val (.int p3), .val (.int p4), .val (.int p5), .val (.int (slotV st p1 p2 p3 p4 p5)), .val (.int (nS st))] [(.ref lo)])) _
      refine XS.iload X18.here hx rfl (hb hby dAD_143) rfl ?_
      show Steps p.tables e below (T18.setTop (mkF m 145 #[.val (.ref o0), .val (.int p1), .val (.int p2), .val (.int p3), .val (.int p4), .val (.int p5), .val (.int (slotV st p1 p2 p3 p4 p5)), .val (.int (nS st))] [(.int (nS st)), (.ref lo)])) _
      refine XS.iloadN X18.here hx rfl (hb hby dAD_145) rfl ?_
      show Steps p.tables e below (T18.setTop (mkF m 146 #[.val (.ref o0), .val (.int p1), .val (.int p2), .val (.int p3), .val (.int p4), .val (.int p5), .val (.int (slotV st p1 p2 p3 p4 p5)), .val (.int (nS st))] [(.int p3), (.int (nS st)), (.ref lo)])) _
      refine st21 _ ?_
      show Steps p.tables e below (T21.setTop (mkF m 147 #[.val (.ref o0), .val (.int p1), .val (.int p2), .val (.int p3), .val (.int p4), .val (.int p5), .val (.int (slotV st p1 p2 p3 p4 p5)), .val (.int (nS st))] [])) _
      refine XS.aloadN X21.here hx rfl (hb hby dAD_147) rfl rfl ?_
      show Steps p.tables e below (T21.setTop (mkF m 148 #[.val (.ref o0), .val (.int p1), .val (.int p2), .val (.int p3), .val (.int p4), .val (.int p5), .val (.int (slotV st p1 p2 p3 p4 p5)), .val (.int (nS st))] [(.ref o0)])) _
      refine st23 _ ?_
      show Steps p.tables e below (T23.setTop (mkF m 151 #[.val (.ref o0), .val (.int p1), .val (.int p2), .val (.int p3), .val (.int p4), .val (.int p5), .val (.int (slotV st p1 p2 p3 p4 p5)), .val (.int (nS st))] [(.ref eq)])) _
      refine XS.iload X23.here hx rfl (hb hby dAD_151) rfl ?_
      show Steps p.tables e below (T23.setTop (mkF m 153 #[.val (.ref o0), .val (.int p1), .val (.int p2), .val (.int p3), .val (.int p4), .val (.int p5), .val (.int (slotV st p1 p2 p3 p4 p5)), .val (.int (nS st))] [(.int (nS st)), (.ref eq)])) _
      refine XS.iload X23.here hx rfl (hb hby dAD_153) rfl ?_
      show Steps p.tables e below (T23.setTop (mkF m 155 #[.val (.ref o0), .val (.int p1), .val (.int p2), .val (.int p3), .val (.int p4), .val (.int p5), .val (.int (slotV st p1 p2 p3 p4 p5)), .val (.int (nS st))] [(.int p4), (.int (nS st)), (.ref eq)])) _
      refine st26 _ ?_
      show Steps p.tables e below (T26.setTop (mkF m 156 #[.val (.ref o0), .val (.int p1), .val (.int p2), .val (.int p3), .val (.int p4), .val (.int p5), .val (.int (slotV st p1 p2 p3 p4 p5)), .val (.int (nS st))] [])) _
      refine XS.aloadN X26.here hx rfl (hb hby dAD_156) rfl rfl ?_
      show Steps p.tables e below (T26.setTop (mkF m 157 #[.val (.ref o0), .val (.int p1), .val (.int p2), .val (.int p3), .val (.int p4), .val (.int p5), .val (.int (slotV st p1 p2 p3 p4 p5)), .val (.int (nS st))] [(.ref o0)])) _
      refine st28 _ ?_
      show Steps p.tables e below (T28.setTop (mkF m 160 #[.val (.ref o0), .val (.int p1), .val (.int p2), .val (.int p3), .val (.int p4), .val (.int p5), .val (.int (slotV st p1 p2 p3 p4 p5)), .val (.int (nS st))] [(.ref hi)])) _
      refine XS.iload X28.here hx rfl (hb hby dAD_160) rfl ?_
      show Steps p.tables e below (T28.setTop (mkF m 162 #[.val (.ref o0), .val (.int p1), .val (.int p2), .val (.int p3), .val (.int p4), .val (.int p5), .val (.int (slotV st p1 p2 p3 p4 p5)), .val (.int (nS st))] [(.int (nS st)), (.ref hi)])) _
      refine XS.iload X28.here hx rfl (hb hby dAD_162) rfl ?_
      show Steps p.tables e below (T28.setTop (mkF m 164 #[.val (.ref o0), .val (.int p1), .val (.int p2), .val (.int p3), .val (.int p4), .val (.int p5), .val (.int (slotV st p1 p2 p3 p4 p5)), .val (.int (nS st))] [(.int p5), (.int (nS st)), (.ref hi)])) _
      refine st31 _ ?_
      show Steps p.tables e below (T31.setTop (mkF m 165 #[.val (.ref o0), .val (.int p1), .val (.int p2), .val (.int p3), .val (.int p4), .val (.int p5), .val (.int (slotV st p1 p2 p3 p4 p5)), .val (.int (nS st))] [])) _
      refine XS.aloadN X31.here hx rfl (hb hby dAD_165) rfl rfl ?_
      show Steps p.tables e below (T31.setTop (mkF m 166 #[.val (.ref o0), .val (.int p1), .val (.int p2), .val (.int p3), .val (.int p4), .val (.int p5), .val (.int (slotV st p1 p2 p3 p4 p5)), .val (.int (nS st))] [(.ref o0)])) _
      refine XS.dup X31.here hx rfl (hb hby dAD_166) rfl rfl ?_
      show Steps p.tables e below (T31.setTop (mkF m 167 #[.val (.ref o0), .val (.int p1), .val (.int p2), .val (.int p3), .val (.int p4), .val (.int p5), .val (.int (slotV st p1 p2 p3 p4 p5)), .val (.int (nS st))] [(.ref o0), (.ref o0)])) _
      refine st33 _ ?_
      show Steps p.tables e below (T33.setTop (mkF m 170 #[.val (.ref o0), .val (.int p1), .val (.int p2), .val (.int p3), .val (.int p4), .val (.int p5), .val (.int (slotV st p1 p2 p3 p4 p5)), .val (.int (nS st))] [(.int (nS st)), (.ref o0)])) _
      refine XS.iconst X33.here hx rfl (hb hby dAD_170) ?_
      show Steps p.tables e below (T33.setTop (mkF m 171 #[.val (.ref o0), .val (.int p1), .val (.int p2), .val (.int p3), .val (.int p4), .val (.int p5), .val (.int (slotV st p1 p2 p3 p4 p5)), .val (.int (nS st))] [(.int (1 : Int32)), (.int (nS st)), (.ref o0)])) _
      refine XS.iadd X33.here hx rfl (hb hby dAD_171) rfl ?_
      show Steps p.tables e below (T33.setTop (mkF m 172 #[.val (.ref o0), .val (.int p1), .val (.int p2), .val (.int p3), .val (.int p4), .val (.int p5), .val (.int (slotV st p1 p2 p3 p4 p5)), .val (.int (nS st))] [(.int ((nS st) + (1 : Int32))), (.ref o0)])) _
      refine st35 _ ?_
      show Steps p.tables e below (T35.setTop (mkF m 175 #[.val (.ref o0), .val (.int p1), .val (.int p2), .val (.int p3), .val (.int p4), .val (.int p5), .val (.int (slotV st p1 p2 p3 p4 p5)), .val (.int (nS st))] [])) _
      refine XS.aloadN X35.here hx rfl (hb hby dAD_175) rfl rfl ?_
      show Steps p.tables e below (T35.setTop (mkF m 176 #[.val (.ref o0), .val (.int p1), .val (.int p2), .val (.int p3), .val (.int p4), .val (.int p5), .val (.int (slotV st p1 p2 p3 p4 p5)), .val (.int (nS st))] [(.ref o0)])) _
      refine st37 _ ?_
      show Steps p.tables e below (T37.setTop (mkF m 179 #[.val (.ref o0), .val (.int p1), .val (.int p2), .val (.int p3), .val (.int p4), .val (.int p5), .val (.int (slotV st p1 p2 p3 p4 p5)), .val (.int (nS st))] [(.ref sl)])) _
      refine XS.iload X37.here hx rfl (hb hby dAD_179) rfl ?_
      show Steps p.tables e below (T37.setTop (mkF m 181 #[.val (.ref o0), .val (.int p1), .val (.int p2), .val (.int p3), .val (.int p4), .val (.int p5), .val (.int (slotV st p1 p2 p3 p4 p5)), .val (.int (nS st))] [(.int (slotV st p1 p2 p3 p4 p5)), (.ref sl)])) _
      refine XS.iload X37.here hx rfl (hb hby dAD_181) rfl ?_
      show Steps p.tables e below (T37.setTop (mkF m 183 #[.val (.ref o0), .val (.int p1), .val (.int p2), .val (.int p3), .val (.int p4), .val (.int p5), .val (.int (slotV st p1 p2 p3 p4 p5)), .val (.int (nS st))] [(.int (nS st)), (.int (slotV st p1 p2 p3 p4 p5)), (.ref sl)])) _
      refine st40 _ ?_
      show Steps p.tables e below (T40.setTop (mkF m 184 #[.val (.ref o0), .val (.int p1), .val (.int p2), .val (.int p3), .val (.int p4), .val (.int p5), .val (.int (slotV st p1 p2 p3 p4 p5)), .val (.int (nS st))] [])) _
      refine XS.aloadN X40.here hx rfl (hb hby dAD_184) rfl rfl ?_
      show Steps p.tables e below (T40.setTop (mkF m 185 #[.val (.ref o0), .val (.int p1), .val (.int p2), .val (.int p3), .val (.int p4), .val (.int p5), .val (.int (slotV st p1 p2 p3 p4 p5)), .val (.int (nS st))] [(.ref o0)])) _
      refine st42 _ ?_
      show Steps p.tables e below (T42.setTop (mkF m 188 #[.val (.ref o0), .val (.int p1), .val (.int p2), .val (.int p3), .val (.int p4), .val (.int p5), .val (.int (slotV st p1 p2 p3 p4 p5)), .val (.int (nS st))] [(.int ((nS st) + (1 : Int32)))])) _
      refine XS.iconst X42.here hx rfl (hb hby dAD_188) ?_
      show Steps p.tables e below (T42.setTop (mkF m 189 #[.val (.ref o0), .val (.int p1), .val (.int p2), .val (.int p3), .val (.int p4), .val (.int p5), .val (.int (slotV st p1 p2 p3 p4 p5)), .val (.int (nS st))] [(.int (2 : Int32)), (.int ((nS st) + (1 : Int32)))])) _
      refine XS.imul X42.here hx rfl (hb hby dAD_189) rfl ?_
      show Steps p.tables e below (T42.setTop (mkF m 190 #[.val (.ref o0), .val (.int p1), .val (.int p2), .val (.int p3), .val (.int p4), .val (.int p5), .val (.int (slotV st p1 p2 p3 p4 p5)), .val (.int (nS st))] [(.int (((nS st) + (1 : Int32)) * (2 : Int32)))])) _
      refine XS.aloadN X42.here hx rfl (hb hby dAD_190) rfl rfl ?_
      show Steps p.tables e below (T42.setTop (mkF m 191 #[.val (.ref o0), .val (.int p1), .val (.int p2), .val (.int p3), .val (.int p4), .val (.int p5), .val (.int (slotV st p1 p2 p3 p4 p5)), .val (.int (nS st))] [(.ref o0), (.int (((nS st) + (1 : Int32)) * (2 : Int32)))])) _
      refine st44 _ ?_
      show Steps p.tables e below (T44.setTop (mkF m 194 #[.val (.ref o0), .val (.int p1), .val (.int p2), .val (.int p3), .val (.int p4), .val (.int p5), .val (.int (slotV st p1 p2 p3 p4 p5)), .val (.int (nS st))] [(.ref sl), (.int (((nS st) + (1 : Int32)) * (2 : Int32)))])) _
      refine X44.arraylength hx (by rw [e44]; exact Ar45.1) (State.isArrayOf_alike hZ.alike Ar45.2.1) (g := (mkF m 194 #[.val (.ref o0), .val (.int p1), .val (.int p2), .val (.int p3), .val (.int p4), .val (.int p5), .val (.int (slotV st p1 p2 p3 p4 p5)), .val (.int (nS st))] [(.ref sl), (.int (((nS st) + (1 : Int32)) * (2 : Int32)))])) rfl rfl (hb hby dAD_194) _ ?_
      rw [len_of S45 Nn45]
      show Steps p.tables e below (T44.setTop (mkF m 195 #[.val (.ref o0), .val (.int p1), .val (.int p2), .val (.int p3), .val (.int p4), .val (.int p5), .val (.int (slotV st p1 p2 p3 p4 p5)), .val (.int (nS st))] [(.int (128 : Int32)), (.int (((nS st) + (1 : Int32)) * (2 : Int32)))])) _
      refine XS.icmpYes X44.here hx rfl (pc0 := 195) (pc' := 202) rfl (hb hby dAD_195) rfl (flt (show ¬ ((128 : Int32) < (((nS st) + (1 : Int32)) * (2 : Int32))) from (own_n2 hn))).2.2.2 (by decide) (by decide) ?_
      show Steps p.tables e below (T44.setTop (mkF m 202 #[.val (.ref o0), .val (.int p1), .val (.int p2), .val (.int p3), .val (.int p4), .val (.int p5), .val (.int (slotV st p1 p2 p3 p4 p5)), .val (.int (nS st))] [])) _
      refine XS.iload X44.here hx rfl (hb hby dAD_202) rfl ?_
      show Steps p.tables e below (T44.setTop (mkF m 204 #[.val (.ref o0), .val (.int p1), .val (.int p2), .val (.int p3), .val (.int p4), .val (.int p5), .val (.int (slotV st p1 p2 p3 p4 p5)), .val (.int (nS st))] [(.int (nS st))])) _
      exact retI X44 hx Bd.returns (hb hby dAD_204) hr
    · show QAD Z o0 cp fr lo eq hi sl st p1 p2 p3 p4 p5 h0 n0 _ T44.heap _
      rw [e44]
      refine ⟨by rw [addV, findV, if_pos hc21], N40, K40, ?_⟩
      rw [addS, if_pos (show findV st p1 p2 p3 p4 p5 = (-1 : Int32) from hc21)]
      exact ⟨f46, f47, f48, f49, f50, f51, f43, f41, f52, f53, f54, f55, f56, V40, g_o0, g_cp, g_fr, g_lo, g_eq, g_hi, g_sl⟩
  · obtain ⟨T57, X57, e57, st57⟩ := getF X2 hx hZ hown (host := "") (Or.inl (hw _ (List.mem_of_getElem? (i := 27) rfl))) Via.refl e2 F_sl (g := (mkF m 25 #[.val (.ref o0), .val (.int p1), .val (.int p2), .val (.int p3), .val (.int p4), .val (.int p5), .val (.int (slotV st p1 p2 p3 p4 p5)), .unset] [(.ref o0)])) rfl rfl (hb hby dAD_25)
    obtain ⟨cl58, Ar58, S58, Nn58, Hh58⟩ := id A_sl
    have ib58 : ¬ ((slotV st p1 p2 p3 p4 p5)) < 0 ∧ ((slotV st p1 p2 p3 p4 p5)) < (128 : Int32) := hsl
    obtain ⟨fs, hr, hrun, hended, hW, hsame⟩ := X57.leave (v := some (.int ((slS st) (slotV st p1 p2 p3 p4 p5)))) (fun h => by rw [Bd.returns] at h; cases h)
    refine ⟨_, _, pre4 _ ?_, hrun, hended, _, _, rfl, ?_, ⟨_, rfl⟩, hW, hsame.mono (by decide) (by decide)⟩
    · show Steps p.tables e below (T2.setTop (mkF m 21 #[.val (.ref o0), .val (.int p1), .val (.int p2), .val (.int p3), .val (.int p4), .val (.int p5), .val (.int (slotV st p1 p2 p3 p4 p5)), .unset] [(.int (-1 : Int32)), (.int ((slS st) (slotV st p1 p2 p3 p4 p5)))])) _
      refine XS.icmpNo X2.here hx rfl (hb hby dAD_21) rfl (feq (show ¬ (((slS st) (slotV st p1 p2 p3 p4 p5)) = (-1 : Int32)) from hc21)).1 ?_
      show Steps p.tables e below (T2.setTop (mkF m 24 #[.val (.ref o0), .val (.int p1), .val (.int p2), .val (.int p3), .val (.int p4), .val (.int p5), .val (.int (slotV st p1 p2 p3 p4 p5)), .unset] [])) _
      refine XS.aloadN X2.here hx rfl (hb hby dAD_24) rfl rfl ?_
      show Steps p.tables e below (T2.setTop (mkF m 25 #[.val (.ref o0), .val (.int p1), .val (.int p2), .val (.int p3), .val (.int p4), .val (.int p5), .val (.int (slotV st p1 p2 p3 p4 p5)), .unset] [(.ref o0)])) _
      refine st57 _ ?_
      show Steps p.tables e below (T57.setTop (mkF m 28 #[.val (.ref o0), .val (.int p1), .val (.int p2), .val (.int p3), .val (.int p4), .val (.int p5), .val (.int (slotV st p1 p2 p3 p4 p5)), .unset] [(.ref sl)])) _
      refine XS.iload X57.here hx rfl (hb hby dAD_28) rfl ?_
      show Steps p.tables e below (T57.setTop (mkF m 30 #[.val (.ref o0), .val (.int p1), .val (.int p2), .val (.int p3), .val (.int p4), .val (.int p5), .val (.int (slotV st p1 p2 p3 p4 p5)), .unset] [(.int (slotV st p1 p2 p3 p4 p5)), (.ref sl)])) _
      refine X57.iaload hx (j := (slotV st p1 p2 p3 p4 p5)) (v := (.int ((slS st) (slotV st p1 p2 p3 p4 p5)))) (by rw [e57]; exact Ar58.1) (State.isArrayOf_alike hZ.alike Ar58.2.1) Ar58.2.2 (inb_of S58 ib58) (Hh58 _ ib58.1 ib58.2) (g := (mkF m 30 #[.val (.ref o0), .val (.int p1), .val (.int p2), .val (.int p3), .val (.int p4), .val (.int p5), .val (.int (slotV st p1 p2 p3 p4 p5)), .unset] [(.int (slotV st p1 p2 p3 p4 p5)), (.ref sl)])) rfl rfl (hb hby dAD_30) _ ?_
      show Steps p.tables e below (T57.setTop (mkF m 31 #[.val (.ref o0), .val (.int p1), .val (.int p2), .val (.int p3), .val (.int p4), .val (.int p5), .val (.int (slotV st p1 p2 p3 p4 p5)), .unset] [(.int ((slS st) (slotV st p1 p2 p3 p4 p5)))])) _
      exact retI X57 hx Bd.returns (hb hby dAD_31) hr
    · show QAD Z o0 cp fr lo eq hi sl st p1 p2 p3 p4 p5 h0 n0 _ T57.heap _
      rw [e57]
      refine ⟨by rw [addV, findV, if_neg hc21], N1, (Keep.refl h0 [o0, cp, fr, lo, eq, hi, sl]), ?_⟩
      rw [addS, if_neg (show ¬ findV st p1 p2 p3 p4 p5 = (-1 : Int32) from hc21)]
      exact hNS0
theorem dFN_0 : decode prog_22_method_3_code 0 = .ok (.aload_n 0, 1) := by decide +kernel
theorem dFN_1 : decode prog_22_method_3_code 1 = .ok (.getfield 29, 3) := by decide +kernel
theorem dFN_4 : decode prog_22_method_3_code 4 = .ok (.aload_n 0, 1) := by decide +kernel
theorem dFN_5 : decode prog_22_method_3_code 5 = .ok (.iload_n 1, 1) := by decide +kernel
theorem dFN_6 : decode prog_22_method_3_code 6 = .ok (.iload_n 2, 1) := by decide +kernel
theorem dFN_7 : decode prog_22_method_3_code 7 = .ok (.iload_n 3, 1) := by decide +kernel
theorem dFN_8 : decode prog_22_method_3_code 8 = .ok (.iload 4, 2) := by decide +kernel
theorem dFN_10 : decode prog_22_method_3_code 10 = .ok (.iload 5, 2) := by decide +kernel
theorem dFN_12 : decode prog_22_method_3_code 12 = .ok (.invokevirtual 32, 3) := by decide +kernel
theorem dFN_15 : decode prog_22_method_3_code 15 = .ok (.iaload, 1) := by decide +kernel
theorem dFN_16 : decode prog_22_method_3_code 16 = .ok (.ireturn, 1) := by decide +kernel
theorem ef_FN (m : MethodId) (o0 : Addr) (p1 : Int32) (p2 : Int32) (p3 : Int32) (p4 : Int32) (p5 : Int32) : entryFrame m #[(.ref o0), (.int p1), (.int p2), (.int p3), (.int p4), (.int p5)] 6 = mkF m 0 #[.val (.ref o0), .val (.int p1), .val (.int p2), .val (.int p3), .val (.int p4), .val (.int p5)] [] := by first | (simp [entryFrame, mkF, argsToLocals, Value.category]; done) | rfl
def QFN (st : NSt) (p1 p2 p3 p4 p5 : Int32) (h0 : Heap) (n0 : Nat) (v : Option Value) (h : Heap) (L : List Loc) : Prop := v = some (.int (findV st p1 p2 p3 p4 p5)) ∧ Fr n0 L ∧ h = h0
set_option maxRecDepth 65536 in
set_option maxHeartbeats 40000000 in
theorem rmFN (l : Launch) (Z : State) (a0 : Array Value) (hw : ∀ d ∈ tables_1, d.before a0 Z = true) (ws : List Jvm.Cond) (o0 cp fr lo eq hi sl : Addr) (st : NSt) (p1 p2 p3 p4 p5 : Int32) (h0 : Heap) (n0 : Nat) (Z0 : n0 ≤ h0.size) (hNS : NS Z h0 n0 o0 cp fr lo eq hi sl st) (hD : Dist o0 cp fr lo eq hi sl) (hR : Ready st p1 p2 p3 p4 p5) :
    MetFree l (⟨"com/example/libforeword/libforeword/tree/NodeStore", "find", "(IIIII)I"⟩ : MethodName) (head1 (Jvm.Cond.code (⟨"com/example/libforeword/libforeword/tree/NodeStore", "find", "(IIIII)I"⟩ : MethodName) prog_22_method_3_code 6 (some .int) :: ws) ({ frames := 3, cells := 0, slots := 0, locals := 52 } : Room)) (fun a U => a = #[(.ref o0), (.int p1), (.int p2), (.int p3), (.int p4), (.int p5)] ∧ Z.Warmed39 U.vm ∧ U.heap = h0) (fun _ _ _ _ _ => True) (fun _ U o U' => ∃ v L, o = .returned v ∧ QFN st p1 p2 p3 p4 p5 h0 n0 v U'.heap L ∧ FrameEnd U o U' L ({ frames := 3, cells := 0, slots := 0, locals := 52 } : Room).cells ({ frames := 3, cells := 0, slots := 0, locals := 52 } : Room).slots) := by
  refine MetFree.of_bodySF (plainFor_of_name pn_1) hisR ?_
  intro p e s m args below meth c s₁ Bd hml0 hP hK
  obtain ⟨rfl, hZ, hh⟩ := hP
  have hx := Bd.exec
  have hby := Bd.bytes
  have hml : c.maxLocals = 6 := hml0
  have hown : s.vm.findClass "com/example/libforeword/libforeword/tree/NodeStore" = some m.cls := findClass_of_methodNamed Bd.named
  have hnm := (name_of_methodNamed Bd.named Bd.method).1
  have X0 : Stand p l e ({ frames := 3, cells := 0, slots := 0, locals := 52 } : Room) s m #[(.ref o0), (.int p1), (.int p2), (.int p3), (.int p4), (.int p5)] below meth c s₁ [] 0 0 := Stand.of_body Bd
  have e0 : s₁.heap = h0 := by rw [← hh, Bd.state]; rfl
  have N0 := Fr.nil n0
  have pre0 : ∀ t, Steps p.tables e below (s₁.setTop (mkF m 0 #[.val (.ref o0), .val (.int p1), .val (.int p2), .val (.int p3), .val (.int p4), .val (.int p5)] [])) t → Steps p.tables e below (s₁.setTop (entryFrame m #[(.ref o0), (.int p1), (.int p2), (.int p3), (.int p4), (.int p5)] 6)) t := fun t k => castTop (ef_FN m o0 p1 p2 p3 p4 p5) k
  have hNS0 := hNS
  have hD0 := hD
  obtain ⟨E_o0, F_cp, F_fr, F_lo, F_eq, F_hi, F_sl, F_size, A_cp, A_fr, A_lo, A_eq, A_hi, A_sl, g_o0, g_cp, g_fr, g_lo, g_eq, g_hi, g_sl⟩ := hNS
  obtain ⟨ne_o0_cp, ne_o0_fr, ne_o0_lo, ne_o0_eq, ne_o0_hi, ne_o0_sl, ne_cp_fr, ne_cp_lo, ne_cp_eq, ne_cp_hi, ne_cp_sl, ne_fr_lo, ne_fr_eq, ne_fr_hi, ne_fr_sl, ne_lo_eq, ne_lo_hi, ne_lo_sl, ne_eq_hi, ne_eq_sl, ne_hi_sl⟩ := hD
  have hR0 := hR
  obtain ⟨hS, hF, hn, hsl⟩ := hR0
  obtain ⟨T1, X1, e1, st1⟩ := getF X0 hx hZ hown (host := "") (Or.inl (hw _ (List.mem_of_getElem? (i := 27) rfl))) Via.refl e0 F_sl (g := (mkF m 1 #[.val (.ref o0), .val (.int p1), .val (.int p2), .val (.int p3), .val (.int p4), .val (.int p5)] [(.ref o0)])) rfl rfl (hb hby dFN_1)
  obtain ⟨cq2, q2, q2'⟩ := E_o0.cell
  obtain ⟨_, _, ⟨T2, L2, k2, n2⟩, -, X2, ⟨Lc2, hQ2, l2, y2, z2⟩, st2⟩ := X1.privateBack hx (y := (⟨"com/example/libforeword/libforeword/tree/NodeStore", "slot", "(IIIII)I"⟩ : MethodName)) hown (mvT hZ (hw _ (List.mem_of_getElem? (i := 38) rfl))) (mvT hZ (hw _ (List.mem_of_getElem? (i := 39) rfl))) (own_selp (y' := (⟨"com/example/libforeword/libforeword/tree/NodeStore", "add", "(IIIII)I"⟩ : MethodName)) rfl rfl (mvT hZ (hw _ (List.mem_of_getElem? (i := 36) rfl))) (mvT hZ (hw _ (List.mem_of_getElem? (i := 39) rfl))) (Cond.privateMethod_at (mvP hZ (hw _ (List.mem_of_getElem? (i := 40) rfl)) (args := #[])))) (Cond.privateMethod_at (mvP hZ (hw _ (List.mem_of_getElem? (i := 40) rfl)) (args := #[]))) (mvT hZ (hw _ (List.mem_of_getElem? (i := 41) rfl))) (by decide) (backOf (W := 1) (rmSL l Z a0 hw [] o0 cp fr lo eq hi sl st p1 p2 p3 p4 p5 h0 n0 Z0 hNS0 hD0 hR) hZ (hw _ (List.mem_of_getElem? (i := 41) rfl)) (hw _ (List.mem_of_getElem? (i := 3) rfl)) (by decide) (by decide)) (g := (mkF m 12 #[.val (.ref o0), .val (.int p1), .val (.int p2), .val (.int p3), .val (.int p4), .val (.int p5)] [(.int p5), (.int p4), (.int p3), (.int p2), (.int p1), (.ref o0), (.ref sl)])) rfl (by rw [hml]; rfl) (Steps.refl _) (a := o0) (by rw [e1]; exact q2) q2' (argsL := [(.int p1), (.int p2), (.int p3), (.int p4), (.int p5)]) (rest := [(.ref sl)]) (lenOf pd_3 rfl) rfl (by show 2 * 0 + _ ≤ _; exact Nat.le_of_eq rfl) (hb hby dFN_12) (fun _ _ => ⟨rfl, e1, (by decide : 0 + 0 ≤ _), (by decide : 0 + 0 ≤ _)⟩)
  dsimp only [Pt.U, Pt.locs, Pt.cells, Pt.slots] at X2 l2 y2 z2 st2 hQ2
  subst l2 y2 z2
  obtain ⟨rfl, N2q, e2⟩ := hQ2
  have N2 := Fr.app N0 N2q
  obtain ⟨cl3, Ar3, S3, Nn3, Hh3⟩ := id A_sl
  have ib3 : ¬ ((slotV st p1 p2 p3 p4 p5)) < 0 ∧ ((slotV st p1 p2 p3 p4 p5)) < (128 : Int32) := hsl
  obtain ⟨fs, hr, hrun, hended, hW, hsame⟩ := X2.leave (v := some (.int ((slS st) (slotV st p1 p2 p3 p4 p5)))) (fun h => by rw [Bd.returns] at h; cases h)
  refine ⟨_, _, pre0 _ ?_, hrun, hended, _, _, rfl, ?_, ⟨_, rfl⟩, hW, hsame.mono (by decide) (by decide)⟩
  · show Steps p.tables e below (s₁.setTop (mkF m 0 #[.val (.ref o0), .val (.int p1), .val (.int p2), .val (.int p3), .val (.int p4), .val (.int p5)] [])) _
    refine XS.aloadN X0.here hx rfl (hb hby dFN_0) rfl rfl ?_
    show Steps p.tables e below (s₁.setTop (mkF m 1 #[.val (.ref o0), .val (.int p1), .val (.int p2), .val (.int p3), .val (.int p4), .val (.int p5)] [(.ref o0)])) _
    refine st1 _ ?_
    show Steps p.tables e below (T1.setTop (mkF m 4 #[.val (.ref o0), .val (.int p1), .val (.int p2), .val (.int p3), .val (.int p4), .val (.int p5)] [(.ref sl)])) _
    refine XS.aloadN X1.here hx rfl (hb hby dFN_4) rfl rfl ?_
    show Steps p.tables e below (T1.setTop (mkF m 5 #[.val (.ref o0), .val (.int p1), .val (.int p2), .val (.int p3), .val (.int p4), .val (.int p5)] [(.ref o0), (.ref sl)])) _
    refine XS.iloadN X1.here hx rfl (hb hby dFN_5) rfl ?_
    show Steps p.tables e below (T1.setTop (mkF m 6 #[.val (.ref o0), .val (.int p1), .val (.int p2), .val (.int p3), .val (.int p4), .val (.int p5)] [(.int p1), (.ref o0), (.ref sl)])) _
    refine XS.iloadN X1.here hx rfl (hb hby dFN_6) rfl ?_
    show Steps p.tables e below (T1.setTop (mkF m 7 #[.val (.ref o0), .val (.int p1), .val (.int p2), .val (.int p3), .val (.int p4), .val (.int p5)] [(.int p2), (.int p1), (.ref o0), (.ref sl)])) _
    refine XS.iloadN X1.here hx rfl (hb hby dFN_7) rfl ?_
    show Steps p.tables e below (T1.setTop (mkF m 8 #[.val (.ref o0), .val (.int p1), .val (.int p2), .val (.int p3), .val (.int p4), .val (.int p5)] [(.int p3), (.int p2), (.int p1), (.ref o0), (.ref sl)])) _
    refine XS.iload X1.here hx rfl (hb hby dFN_8) rfl ?_
    show Steps p.tables e below (T1.setTop (mkF m 10 #[.val (.ref o0), .val (.int p1), .val (.int p2), .val (.int p3), .val (.int p4), .val (.int p5)] [(.int p4), (.int p3), (.int p2), (.int p1), (.ref o0), (.ref sl)])) _
    refine XS.iload X1.here hx rfl (hb hby dFN_10) rfl ?_
    show Steps p.tables e below (T1.setTop (mkF m 12 #[.val (.ref o0), .val (.int p1), .val (.int p2), .val (.int p3), .val (.int p4), .val (.int p5)] [(.int p5), (.int p4), (.int p3), (.int p2), (.int p1), (.ref o0), (.ref sl)])) _
    refine st2.trans ?_
    show Steps p.tables e below (T2.setTop (mkF m 15 #[.val (.ref o0), .val (.int p1), .val (.int p2), .val (.int p3), .val (.int p4), .val (.int p5)] [(.int (slotV st p1 p2 p3 p4 p5)), (.ref sl)])) _
    refine X2.iaload hx (j := (slotV st p1 p2 p3 p4 p5)) (v := (.int ((slS st) (slotV st p1 p2 p3 p4 p5)))) (by rw [e2]; exact Ar3.1) (State.isArrayOf_alike hZ.alike Ar3.2.1) Ar3.2.2 (inb_of S3 ib3) (Hh3 _ ib3.1 ib3.2) (g := (mkF m 15 #[.val (.ref o0), .val (.int p1), .val (.int p2), .val (.int p3), .val (.int p4), .val (.int p5)] [(.int (slotV st p1 p2 p3 p4 p5)), (.ref sl)])) rfl rfl (hb hby dFN_15) _ ?_
    show Steps p.tables e below (T2.setTop (mkF m 16 #[.val (.ref o0), .val (.int p1), .val (.int p2), .val (.int p3), .val (.int p4), .val (.int p5)] [(.int ((slS st) (slotV st p1 p2 p3 p4 p5)))])) _
    exact retI X2 hx Bd.returns (hb hby dFN_16) hr
  · show QFN st p1 p2 p3 p4 p5 h0 n0 _ T2.heap _
    rw [e2]
    exact ⟨rfl, N2, rfl⟩
theorem dWA_0 : decode method_3_code 0 = .ok (.aload_n 0, 1) := by decide +kernel
theorem dWA_1 : decode method_3_code 1 = .ok (.aload_n 1, 1) := by decide +kernel
theorem dWA_2 : decode method_3_code 2 = .ok (.iconst 0, 1) := by decide +kernel
theorem dWA_3 : decode method_3_code 3 = .ok (.iaload, 1) := by decide +kernel
theorem dWA_4 : decode method_3_code 4 = .ok (.aload_n 1, 1) := by decide +kernel
theorem dWA_5 : decode method_3_code 5 = .ok (.iconst 1, 1) := by decide +kernel
theorem dWA_6 : decode method_3_code 6 = .ok (.iaload, 1) := by decide +kernel
theorem dWA_7 : decode method_3_code 7 = .ok (.aload_n 1, 1) := by decide +kernel
theorem dWA_8 : decode method_3_code 8 = .ok (.iconst 2, 1) := by decide +kernel
theorem dWA_9 : decode method_3_code 9 = .ok (.iaload, 1) := by decide +kernel
theorem dWA_10 : decode method_3_code 10 = .ok (.aload_n 1, 1) := by decide +kernel
theorem dWA_11 : decode method_3_code 11 = .ok (.iconst 3, 1) := by decide +kernel
theorem dWA_12 : decode method_3_code 12 = .ok (.iaload, 1) := by decide +kernel
theorem dWA_13 : decode method_3_code 13 = .ok (.aload_n 1, 1) := by decide +kernel
theorem dWA_14 : decode method_3_code 14 = .ok (.iconst 4, 1) := by decide +kernel
theorem dWA_15 : decode method_3_code 15 = .ok (.iaload, 1) := by decide +kernel
theorem dWA_16 : decode method_3_code 16 = .ok (.invokevirtual 21, 3) := by decide +kernel
theorem dWA_19 : decode method_3_code 19 = .ok (.ireturn, 1) := by decide +kernel
theorem pn_3 : plainName "com/example/libforeword/libforeword/tree/NodeStoreAddPinLaw" = true := by first | (simp [plainName, overriddenIn]; done) | decide +kernel
theorem ef_WA (m : MethodId) (o0 : Addr) (o1 : Addr) : entryFrame m #[(.ref o0), (.ref o1)] 2 = mkF m 0 #[.val (.ref o0), .val (.ref o1)] [] := by first | (simp [entryFrame, mkF, argsToLocals, Value.category]; done) | rfl
def QWA (Z : State) (o0 cp fr lo eq hi sl : Addr) (st : NSt) (tf : Int32 → Int32) (h0 : Heap) (n0 : Nat) (v : Option Value) (h : Heap) (L : List Loc) : Prop := v = some (.int (addV st (tf (0 : Int32)) (tf (1 : Int32)) (tf (2 : Int32)) (tf (3 : Int32)) (tf (4 : Int32)))) ∧ Fr n0 L ∧ Keep h0 h [o0, cp, fr, lo, eq, hi, sl] ∧ NS Z h n0 o0 cp fr lo eq hi sl (addS st (tf (0 : Int32)) (tf (1 : Int32)) (tf (2 : Int32)) (tf (3 : Int32)) (tf (4 : Int32)))
set_option maxRecDepth 65536 in
set_option maxHeartbeats 40000000 in
theorem rmWA (l : Launch) (Z : State) (a0 : Array Value) (hw : ∀ d ∈ tables_1, d.before a0 Z = true) (ws : List Jvm.Cond) (o0 cp fr lo eq hi sl : Addr) (st : NSt) (o1 : Addr) (tf : Int32 → Int32) (h0 : Heap) (n0 : Nat) (Z0 : n0 ≤ h0.size) (hNS : NS Z h0 n0 o0 cp fr lo eq hi sl st) (hD : Dist o0 cp fr lo eq hi sl) (A_t : ArF Z h0 o1 (5 : Int32) tf) (hR : Ready st (tf (0 : Int32)) (tf (1 : Int32)) (tf (2 : Int32)) (tf (3 : Int32)) (tf (4 : Int32))) :
    MetFree l (⟨"com/example/libforeword/libforeword/tree/NodeStoreAddPinLaw", "add", "(Lcom/example/libforeword/libforeword/tree/NodeStore;[I)I"⟩ : MethodName) (head1 (Jvm.Cond.code (⟨"com/example/libforeword/libforeword/tree/NodeStoreAddPinLaw", "add", "(Lcom/example/libforeword/libforeword/tree/NodeStore;[I)I"⟩ : MethodName) method_3_code 2 (some .int) :: ws) ({ frames := 4, cells := 0, slots := 0, locals := 70 } : Room)) (fun a U => a = #[(.ref o0), (.ref o1)] ∧ Z.Warmed39 U.vm ∧ U.heap = h0) (fun _ _ _ _ _ => True) (fun _ U o U' => ∃ v L, o = .returned v ∧ QWA Z o0 cp fr lo eq hi sl st tf h0 n0 v U'.heap L ∧ FrameEnd U o U' L ({ frames := 4, cells := 0, slots := 0, locals := 70 } : Room).cells ({ frames := 4, cells := 0, slots := 0, locals := 70 } : Room).slots) := by
  refine MetFree.of_bodySF (plainFor_of_name pn_3) hisR ?_
  intro p e s m args below meth c s₁ Bd hml0 hP hK
  obtain ⟨rfl, hZ, hh⟩ := hP
  have hx := Bd.exec
  have hby := Bd.bytes
  have hml : c.maxLocals = 2 := hml0
  have hown : s.vm.findClass "com/example/libforeword/libforeword/tree/NodeStoreAddPinLaw" = some m.cls := findClass_of_methodNamed Bd.named
  have hnm := (name_of_methodNamed Bd.named Bd.method).1
  have X0 : Stand p l e ({ frames := 4, cells := 0, slots := 0, locals := 70 } : Room) s m #[(.ref o0), (.ref o1)] below meth c s₁ [] 0 0 := Stand.of_body Bd
  have e0 : s₁.heap = h0 := by rw [← hh, Bd.state]; rfl
  have N0 := Fr.nil n0
  have pre0 : ∀ t, Steps p.tables e below (s₁.setTop (mkF m 0 #[.val (.ref o0), .val (.ref o1)] [])) t → Steps p.tables e below (s₁.setTop (entryFrame m #[(.ref o0), (.ref o1)] 2)) t := fun t k => castTop (ef_WA m o0 o1) k
  have hNS0 := hNS
  have hD0 := hD
  obtain ⟨E_o0, F_cp, F_fr, F_lo, F_eq, F_hi, F_sl, F_size, A_cp, A_fr, A_lo, A_eq, A_hi, A_sl, g_o0, g_cp, g_fr, g_lo, g_eq, g_hi, g_sl⟩ := hNS
  obtain ⟨ne_o0_cp, ne_o0_fr, ne_o0_lo, ne_o0_eq, ne_o0_hi, ne_o0_sl, ne_cp_fr, ne_cp_lo, ne_cp_eq, ne_cp_hi, ne_cp_sl, ne_fr_lo, ne_fr_eq, ne_fr_hi, ne_fr_sl, ne_lo_eq, ne_lo_hi, ne_lo_sl, ne_eq_hi, ne_eq_sl, ne_hi_sl⟩ := hD
  obtain ⟨cl1, Ar1, S1, Nn1, Hh1⟩ := id A_t
  have ib1 : ¬ ((0 : Int32)) < 0 ∧ ((0 : Int32)) < (5 : Int32) := ⟨by decide, by decide⟩
  obtain ⟨cl2, Ar2, S2, Nn2, Hh2⟩ := id A_t
  have ib2 : ¬ ((1 : Int32)) < 0 ∧ ((1 : Int32)) < (5 : Int32) := ⟨by decide, by decide⟩
  obtain ⟨cl3, Ar3, S3, Nn3, Hh3⟩ := id A_t
  have ib3 : ¬ ((2 : Int32)) < 0 ∧ ((2 : Int32)) < (5 : Int32) := ⟨by decide, by decide⟩
  obtain ⟨cl4, Ar4, S4, Nn4, Hh4⟩ := id A_t
  have ib4 : ¬ ((3 : Int32)) < 0 ∧ ((3 : Int32)) < (5 : Int32) := ⟨by decide, by decide⟩
  obtain ⟨cl5, Ar5, S5, Nn5, Hh5⟩ := id A_t
  have ib5 : ¬ ((4 : Int32)) < 0 ∧ ((4 : Int32)) < (5 : Int32) := ⟨by decide, by decide⟩
  obtain ⟨cq6, kq6, q6a, q6b, q6c⟩ := isOf hZ e0 E_o0
  obtain ⟨_, _, ⟨T6, L6, k6, n6⟩, -, X6, ⟨Lc6, hQ6, l6, y6, z6⟩, st6⟩ := X0.virtualBack hx (y := (⟨"com/example/libforeword/libforeword/tree/NodeStore", "add", "(IIIII)I"⟩ : MethodName)) (z := (⟨"com/example/libforeword/libforeword/tree/NodeStore", "add", "(IIIII)I"⟩ : MethodName)) hown (mvT hZ (hw _ (List.mem_of_getElem? (i := 33) rfl))) (mvT hZ (hw _ (List.mem_of_getElem? (i := 34) rfl))) (notFace_of_selects (args := #[]) (mvT hZ (hw _ (List.mem_of_getElem? (i := 36) rfl)))) (mvT hZ (hw _ (List.mem_of_getElem? (i := 36) rfl))) (mvT hZ (hw _ (List.mem_of_getElem? (i := 35) rfl))) (by decide) (backOf (W := 0) (rmAD l Z a0 hw [] o0 cp fr lo eq hi sl st (tf (0 : Int32)) (tf (1 : Int32)) (tf (2 : Int32)) (tf (3 : Int32)) (tf (4 : Int32)) h0 n0 Z0 hNS0 hD0 hR) hZ (hw _ (List.mem_of_getElem? (i := 37) rfl)) (hw _ (List.mem_of_getElem? (i := 3) rfl)) (by decide) (by decide)) q6a q6c (g := (mkF m 16 #[.val (.ref o0), .val (.ref o1)] [(.int (tf (4 : Int32))), (.int (tf (3 : Int32))), (.int (tf (2 : Int32))), (.int (tf (1 : Int32))), (.int (tf (0 : Int32))), (.ref o0)])) rfl (by rw [hml]; rfl) (Steps.refl _) (argsL := [(.int (tf (0 : Int32))), (.int (tf (1 : Int32))), (.int (tf (2 : Int32))), (.int (tf (3 : Int32))), (.int (tf (4 : Int32)))]) (rest := []) (lenOf pd_3 rfl) rfl (by show 2 * 0 + _ ≤ _; exact Nat.le_of_eq rfl) (hb hby dWA_16) (fun _ _ => ⟨rfl, e0, (by decide : 0 + 0 ≤ _), (by decide : 0 + 0 ≤ _)⟩)
  dsimp only [Pt.U, Pt.locs, Pt.cells, Pt.slots] at X6 l6 y6 z6 st6 hQ6
  subst l6 y6 z6
  obtain ⟨rfl, N6q, K6, hNS6⟩ := hQ6
  have KK6 : Keep h0 T6.heap [o0, cp, fr, lo, eq, hi, sl] := Keep.trans (Keep.refl h0 [o0, cp, fr, lo, eq, hi, sl]) K6 (own_side7 (Or.inl (List.mem_of_getElem? (i := 0) rfl)) (Or.inl (List.mem_of_getElem? (i := 1) rfl)) (Or.inl (List.mem_of_getElem? (i := 2) rfl)) (Or.inl (List.mem_of_getElem? (i := 3) rfl)) (Or.inl (List.mem_of_getElem? (i := 4) rfl)) (Or.inl (List.mem_of_getElem? (i := 5) rfl)) (Or.inl (List.mem_of_getElem? (i := 6) rfl)))
  have Z6 : n0 ≤ T6.heap.size := Nat.le_trans Z0 KK6.1
  have N6 := Fr.app N0 N6q
  obtain ⟨fs, hr, hrun, hended, hW, hsame⟩ := X6.leave (v := some (.int (addV st (tf (0 : Int32)) (tf (1 : Int32)) (tf (2 : Int32)) (tf (3 : Int32)) (tf (4 : Int32))))) (fun h => by rw [Bd.returns] at h; cases h)
  refine ⟨_, _, pre0 _ ?_, hrun, hended, _, _, rfl, ?_, ⟨_, rfl⟩, hW, hsame.mono (by decide) (by decide)⟩
  · show Steps p.tables e below (s₁.setTop (mkF m 0 #[.val (.ref o0), .val (.ref o1)] [])) _
    refine XS.aloadN X0.here hx rfl (hb hby dWA_0) rfl rfl ?_
    show Steps p.tables e below (s₁.setTop (mkF m 1 #[.val (.ref o0), .val (.ref o1)] [(.ref o0)])) _
    refine XS.aloadN X0.here hx rfl (hb hby dWA_1) rfl rfl ?_
    show Steps p.tables e below (s₁.setTop (mkF m 2 #[.val (.ref o0), .val (.ref o1)] [(.ref o1), (.ref o0)])) _
    refine XS.iconst X0.here hx rfl (hb hby dWA_2) ?_
    show Steps p.tables e below (s₁.setTop (mkF m 3 #[.val (.ref o0), .val (.ref o1)] [(.int (0 : Int32)), (.ref o1), (.ref o0)])) _
    refine X0.iaload hx (j := (0 : Int32)) (v := (.int (tf (0 : Int32)))) (by rw [e0]; exact Ar1.1) (State.isArrayOf_alike hZ.alike Ar1.2.1) Ar1.2.2 (inb_of S1 ib1) (Hh1 _ ib1.1 ib1.2) (g := (mkF m 3 #[.val (.ref o0), .val (.ref o1)] [(.int (0 : Int32)), (.ref o1), (.ref o0)])) rfl rfl (hb hby dWA_3) _ ?_
    show Steps p.tables e below (s₁.setTop (mkF m 4 #[.val (.ref o0), .val (.ref o1)] [(.int (tf (0 : Int32))), (.ref o0)])) _
    refine XS.aloadN X0.here hx rfl (hb hby dWA_4) rfl rfl ?_
    show Steps p.tables e below (s₁.setTop (mkF m 5 #[.val (.ref o0), .val (.ref o1)] [(.ref o1), (.int (tf (0 : Int32))), (.ref o0)])) _
    refine XS.iconst X0.here hx rfl (hb hby dWA_5) ?_
    show Steps p.tables e below (s₁.setTop (mkF m 6 #[.val (.ref o0), .val (.ref o1)] [(.int (1 : Int32)), (.ref o1), (.int (tf (0 : Int32))), (.ref o0)])) _
    refine X0.iaload hx (j := (1 : Int32)) (v := (.int (tf (1 : Int32)))) (by rw [e0]; exact Ar2.1) (State.isArrayOf_alike hZ.alike Ar2.2.1) Ar2.2.2 (inb_of S2 ib2) (Hh2 _ ib2.1 ib2.2) (g := (mkF m 6 #[.val (.ref o0), .val (.ref o1)] [(.int (1 : Int32)), (.ref o1), (.int (tf (0 : Int32))), (.ref o0)])) rfl rfl (hb hby dWA_6) _ ?_
    show Steps p.tables e below (s₁.setTop (mkF m 7 #[.val (.ref o0), .val (.ref o1)] [(.int (tf (1 : Int32))), (.int (tf (0 : Int32))), (.ref o0)])) _
    refine XS.aloadN X0.here hx rfl (hb hby dWA_7) rfl rfl ?_
    show Steps p.tables e below (s₁.setTop (mkF m 8 #[.val (.ref o0), .val (.ref o1)] [(.ref o1), (.int (tf (1 : Int32))), (.int (tf (0 : Int32))), (.ref o0)])) _
    refine XS.iconst X0.here hx rfl (hb hby dWA_8) ?_
    show Steps p.tables e below (s₁.setTop (mkF m 9 #[.val (.ref o0), .val (.ref o1)] [(.int (2 : Int32)), (.ref o1), (.int (tf (1 : Int32))), (.int (tf (0 : Int32))), (.ref o0)])) _
    refine X0.iaload hx (j := (2 : Int32)) (v := (.int (tf (2 : Int32)))) (by rw [e0]; exact Ar3.1) (State.isArrayOf_alike hZ.alike Ar3.2.1) Ar3.2.2 (inb_of S3 ib3) (Hh3 _ ib3.1 ib3.2) (g := (mkF m 9 #[.val (.ref o0), .val (.ref o1)] [(.int (2 : Int32)), (.ref o1), (.int (tf (1 : Int32))), (.int (tf (0 : Int32))), (.ref o0)])) rfl rfl (hb hby dWA_9) _ ?_
    show Steps p.tables e below (s₁.setTop (mkF m 10 #[.val (.ref o0), .val (.ref o1)] [(.int (tf (2 : Int32))), (.int (tf (1 : Int32))), (.int (tf (0 : Int32))), (.ref o0)])) _
    refine XS.aloadN X0.here hx rfl (hb hby dWA_10) rfl rfl ?_
    show Steps p.tables e below (s₁.setTop (mkF m 11 #[.val (.ref o0), .val (.ref o1)] [(.ref o1), (.int (tf (2 : Int32))), (.int (tf (1 : Int32))), (.int (tf (0 : Int32))), (.ref o0)])) _
    refine XS.iconst X0.here hx rfl (hb hby dWA_11) ?_
    show Steps p.tables e below (s₁.setTop (mkF m 12 #[.val (.ref o0), .val (.ref o1)] [(.int (3 : Int32)), (.ref o1), (.int (tf (2 : Int32))), (.int (tf (1 : Int32))), (.int (tf (0 : Int32))), (.ref o0)])) _
    refine X0.iaload hx (j := (3 : Int32)) (v := (.int (tf (3 : Int32)))) (by rw [e0]; exact Ar4.1) (State.isArrayOf_alike hZ.alike Ar4.2.1) Ar4.2.2 (inb_of S4 ib4) (Hh4 _ ib4.1 ib4.2) (g := (mkF m 12 #[.val (.ref o0), .val (.ref o1)] [(.int (3 : Int32)), (.ref o1), (.int (tf (2 : Int32))), (.int (tf (1 : Int32))), (.int (tf (0 : Int32))), (.ref o0)])) rfl rfl (hb hby dWA_12) _ ?_
    show Steps p.tables e below (s₁.setTop (mkF m 13 #[.val (.ref o0), .val (.ref o1)] [(.int (tf (3 : Int32))), (.int (tf (2 : Int32))), (.int (tf (1 : Int32))), (.int (tf (0 : Int32))), (.ref o0)])) _
    refine XS.aloadN X0.here hx rfl (hb hby dWA_13) rfl rfl ?_
    show Steps p.tables e below (s₁.setTop (mkF m 14 #[.val (.ref o0), .val (.ref o1)] [(.ref o1), (.int (tf (3 : Int32))), (.int (tf (2 : Int32))), (.int (tf (1 : Int32))), (.int (tf (0 : Int32))), (.ref o0)])) _
    refine XS.iconst X0.here hx rfl (hb hby dWA_14) ?_
    show Steps p.tables e below (s₁.setTop (mkF m 15 #[.val (.ref o0), .val (.ref o1)] [(.int (4 : Int32)), (.ref o1), (.int (tf (3 : Int32))), (.int (tf (2 : Int32))), (.int (tf (1 : Int32))), (.int (tf (0 : Int32))), (.ref o0)])) _
    refine X0.iaload hx (j := (4 : Int32)) (v := (.int (tf (4 : Int32)))) (by rw [e0]; exact Ar5.1) (State.isArrayOf_alike hZ.alike Ar5.2.1) Ar5.2.2 (inb_of S5 ib5) (Hh5 _ ib5.1 ib5.2) (g := (mkF m 15 #[.val (.ref o0), .val (.ref o1)] [(.int (4 : Int32)), (.ref o1), (.int (tf (3 : Int32))), (.int (tf (2 : Int32))), (.int (tf (1 : Int32))), (.int (tf (0 : Int32))), (.ref o0)])) rfl rfl (hb hby dWA_15) _ ?_
    show Steps p.tables e below (s₁.setTop (mkF m 16 #[.val (.ref o0), .val (.ref o1)] [(.int (tf (4 : Int32))), (.int (tf (3 : Int32))), (.int (tf (2 : Int32))), (.int (tf (1 : Int32))), (.int (tf (0 : Int32))), (.ref o0)])) _
    refine st6.trans ?_
    show Steps p.tables e below (T6.setTop (mkF m 19 #[.val (.ref o0), .val (.ref o1)] [(.int (addV st (tf (0 : Int32)) (tf (1 : Int32)) (tf (2 : Int32)) (tf (3 : Int32)) (tf (4 : Int32))))])) _
    exact retI X6 hx Bd.returns (hb hby dWA_19) hr
  · show QWA Z o0 cp fr lo eq hi sl st tf h0 n0 _ T6.heap _
    exact ⟨rfl, N6, KK6, hNS6⟩
theorem dWF_0 : decode method_4_code 0 = .ok (.aload_n 0, 1) := by decide +kernel
theorem dWF_1 : decode method_4_code 1 = .ok (.aload_n 1, 1) := by decide +kernel
theorem dWF_2 : decode method_4_code 2 = .ok (.iconst 0, 1) := by decide +kernel
theorem dWF_3 : decode method_4_code 3 = .ok (.iaload, 1) := by decide +kernel
theorem dWF_4 : decode method_4_code 4 = .ok (.aload_n 1, 1) := by decide +kernel
theorem dWF_5 : decode method_4_code 5 = .ok (.iconst 1, 1) := by decide +kernel
theorem dWF_6 : decode method_4_code 6 = .ok (.iaload, 1) := by decide +kernel
theorem dWF_7 : decode method_4_code 7 = .ok (.aload_n 1, 1) := by decide +kernel
theorem dWF_8 : decode method_4_code 8 = .ok (.iconst 2, 1) := by decide +kernel
theorem dWF_9 : decode method_4_code 9 = .ok (.iaload, 1) := by decide +kernel
theorem dWF_10 : decode method_4_code 10 = .ok (.aload_n 1, 1) := by decide +kernel
theorem dWF_11 : decode method_4_code 11 = .ok (.iconst 3, 1) := by decide +kernel
theorem dWF_12 : decode method_4_code 12 = .ok (.iaload, 1) := by decide +kernel
theorem dWF_13 : decode method_4_code 13 = .ok (.aload_n 1, 1) := by decide +kernel
theorem dWF_14 : decode method_4_code 14 = .ok (.iconst 4, 1) := by decide +kernel
theorem dWF_15 : decode method_4_code 15 = .ok (.iaload, 1) := by decide +kernel
theorem dWF_16 : decode method_4_code 16 = .ok (.invokevirtual 24, 3) := by decide +kernel
theorem dWF_19 : decode method_4_code 19 = .ok (.ireturn, 1) := by decide +kernel
theorem ef_WF (m : MethodId) (o0 : Addr) (o1 : Addr) : entryFrame m #[(.ref o0), (.ref o1)] 2 = mkF m 0 #[.val (.ref o0), .val (.ref o1)] [] := by first | (simp [entryFrame, mkF, argsToLocals, Value.category]; done) | rfl
def QWF (st : NSt) (tf : Int32 → Int32) (h0 : Heap) (n0 : Nat) (v : Option Value) (h : Heap) (L : List Loc) : Prop := v = some (.int (findV st (tf (0 : Int32)) (tf (1 : Int32)) (tf (2 : Int32)) (tf (3 : Int32)) (tf (4 : Int32)))) ∧ Fr n0 L ∧ h = h0
set_option maxRecDepth 65536 in
set_option maxHeartbeats 40000000 in
theorem rmWF (l : Launch) (Z : State) (a0 : Array Value) (hw : ∀ d ∈ tables_1, d.before a0 Z = true) (ws : List Jvm.Cond) (o0 cp fr lo eq hi sl : Addr) (st : NSt) (o1 : Addr) (tf : Int32 → Int32) (h0 : Heap) (n0 : Nat) (Z0 : n0 ≤ h0.size) (hNS : NS Z h0 n0 o0 cp fr lo eq hi sl st) (hD : Dist o0 cp fr lo eq hi sl) (A_t : ArF Z h0 o1 (5 : Int32) tf) (hR : Ready st (tf (0 : Int32)) (tf (1 : Int32)) (tf (2 : Int32)) (tf (3 : Int32)) (tf (4 : Int32))) :
    MetFree l (⟨"com/example/libforeword/libforeword/tree/NodeStoreAddPinLaw", "find", "(Lcom/example/libforeword/libforeword/tree/NodeStore;[I)I"⟩ : MethodName) (head1 (Jvm.Cond.code (⟨"com/example/libforeword/libforeword/tree/NodeStoreAddPinLaw", "find", "(Lcom/example/libforeword/libforeword/tree/NodeStore;[I)I"⟩ : MethodName) method_4_code 2 (some .int) :: ws) ({ frames := 4, cells := 0, slots := 0, locals := 70 } : Room)) (fun a U => a = #[(.ref o0), (.ref o1)] ∧ Z.Warmed39 U.vm ∧ U.heap = h0) (fun _ _ _ _ _ => True) (fun _ U o U' => ∃ v L, o = .returned v ∧ QWF st tf h0 n0 v U'.heap L ∧ FrameEnd U o U' L ({ frames := 4, cells := 0, slots := 0, locals := 70 } : Room).cells ({ frames := 4, cells := 0, slots := 0, locals := 70 } : Room).slots) := by
  refine MetFree.of_bodySF (plainFor_of_name pn_3) hisR ?_
  intro p e s m args below meth c s₁ Bd hml0 hP hK
  obtain ⟨rfl, hZ, hh⟩ := hP
  have hx := Bd.exec
  have hby := Bd.bytes
  have hml : c.maxLocals = 2 := hml0
  have hown : s.vm.findClass "com/example/libforeword/libforeword/tree/NodeStoreAddPinLaw" = some m.cls := findClass_of_methodNamed Bd.named
  have hnm := (name_of_methodNamed Bd.named Bd.method).1
  have X0 : Stand p l e ({ frames := 4, cells := 0, slots := 0, locals := 70 } : Room) s m #[(.ref o0), (.ref o1)] below meth c s₁ [] 0 0 := Stand.of_body Bd
  have e0 : s₁.heap = h0 := by rw [← hh, Bd.state]; rfl
  have N0 := Fr.nil n0
  have pre0 : ∀ t, Steps p.tables e below (s₁.setTop (mkF m 0 #[.val (.ref o0), .val (.ref o1)] [])) t → Steps p.tables e below (s₁.setTop (entryFrame m #[(.ref o0), (.ref o1)] 2)) t := fun t k => castTop (ef_WF m o0 o1) k
  have hNS0 := hNS
  have hD0 := hD
  obtain ⟨E_o0, F_cp, F_fr, F_lo, F_eq, F_hi, F_sl, F_size, A_cp, A_fr, A_lo, A_eq, A_hi, A_sl, g_o0, g_cp, g_fr, g_lo, g_eq, g_hi, g_sl⟩ := hNS
  obtain ⟨ne_o0_cp, ne_o0_fr, ne_o0_lo, ne_o0_eq, ne_o0_hi, ne_o0_sl, ne_cp_fr, ne_cp_lo, ne_cp_eq, ne_cp_hi, ne_cp_sl, ne_fr_lo, ne_fr_eq, ne_fr_hi, ne_fr_sl, ne_lo_eq, ne_lo_hi, ne_lo_sl, ne_eq_hi, ne_eq_sl, ne_hi_sl⟩ := hD
  obtain ⟨cl1, Ar1, S1, Nn1, Hh1⟩ := id A_t
  have ib1 : ¬ ((0 : Int32)) < 0 ∧ ((0 : Int32)) < (5 : Int32) := ⟨by decide, by decide⟩
  obtain ⟨cl2, Ar2, S2, Nn2, Hh2⟩ := id A_t
  have ib2 : ¬ ((1 : Int32)) < 0 ∧ ((1 : Int32)) < (5 : Int32) := ⟨by decide, by decide⟩
  obtain ⟨cl3, Ar3, S3, Nn3, Hh3⟩ := id A_t
  have ib3 : ¬ ((2 : Int32)) < 0 ∧ ((2 : Int32)) < (5 : Int32) := ⟨by decide, by decide⟩
  obtain ⟨cl4, Ar4, S4, Nn4, Hh4⟩ := id A_t
  have ib4 : ¬ ((3 : Int32)) < 0 ∧ ((3 : Int32)) < (5 : Int32) := ⟨by decide, by decide⟩
  obtain ⟨cl5, Ar5, S5, Nn5, Hh5⟩ := id A_t
  have ib5 : ¬ ((4 : Int32)) < 0 ∧ ((4 : Int32)) < (5 : Int32) := ⟨by decide, by decide⟩
  obtain ⟨cq6, kq6, q6a, q6b, q6c⟩ := isOf hZ e0 E_o0
  obtain ⟨_, _, ⟨T6, L6, k6, n6⟩, -, X6, ⟨Lc6, hQ6, l6, y6, z6⟩, st6⟩ := X0.virtualBack hx (y := (⟨"com/example/libforeword/libforeword/tree/NodeStore", "find", "(IIIII)I"⟩ : MethodName)) (z := (⟨"com/example/libforeword/libforeword/tree/NodeStore", "find", "(IIIII)I"⟩ : MethodName)) hown (mvT hZ (hw _ (List.mem_of_getElem? (i := 59) rfl))) (mvT hZ (hw _ (List.mem_of_getElem? (i := 60) rfl))) (notFace_of_selects (args := #[]) (mvT hZ (hw _ (List.mem_of_getElem? (i := 62) rfl)))) (mvT hZ (hw _ (List.mem_of_getElem? (i := 62) rfl))) (mvT hZ (hw _ (List.mem_of_getElem? (i := 61) rfl))) (by decide) (backOf (W := 0) (rmFN l Z a0 hw [] o0 cp fr lo eq hi sl st (tf (0 : Int32)) (tf (1 : Int32)) (tf (2 : Int32)) (tf (3 : Int32)) (tf (4 : Int32)) h0 n0 Z0 hNS0 hD0 hR) hZ (hw _ (List.mem_of_getElem? (i := 63) rfl)) (hw _ (List.mem_of_getElem? (i := 3) rfl)) (by decide) (by decide)) q6a q6c (g := (mkF m 16 #[.val (.ref o0), .val (.ref o1)] [(.int (tf (4 : Int32))), (.int (tf (3 : Int32))), (.int (tf (2 : Int32))), (.int (tf (1 : Int32))), (.int (tf (0 : Int32))), (.ref o0)])) rfl (by rw [hml]; rfl) (Steps.refl _) (argsL := [(.int (tf (0 : Int32))), (.int (tf (1 : Int32))), (.int (tf (2 : Int32))), (.int (tf (3 : Int32))), (.int (tf (4 : Int32)))]) (rest := []) (lenOf pd_3 rfl) rfl (by show 2 * 0 + _ ≤ _; exact Nat.le_of_eq rfl) (hb hby dWF_16) (fun _ _ => ⟨rfl, e0, (by decide : 0 + 0 ≤ _), (by decide : 0 + 0 ≤ _)⟩)
  dsimp only [Pt.U, Pt.locs, Pt.cells, Pt.slots] at X6 l6 y6 z6 st6 hQ6
  subst l6 y6 z6
  obtain ⟨rfl, N6q, e6⟩ := hQ6
  have N6 := Fr.app N0 N6q
  obtain ⟨fs, hr, hrun, hended, hW, hsame⟩ := X6.leave (v := some (.int (findV st (tf (0 : Int32)) (tf (1 : Int32)) (tf (2 : Int32)) (tf (3 : Int32)) (tf (4 : Int32))))) (fun h => by rw [Bd.returns] at h; cases h)
  refine ⟨_, _, pre0 _ ?_, hrun, hended, _, _, rfl, ?_, ⟨_, rfl⟩, hW, hsame.mono (by decide) (by decide)⟩
  · show Steps p.tables e below (s₁.setTop (mkF m 0 #[.val (.ref o0), .val (.ref o1)] [])) _
    refine XS.aloadN X0.here hx rfl (hb hby dWF_0) rfl rfl ?_
    show Steps p.tables e below (s₁.setTop (mkF m 1 #[.val (.ref o0), .val (.ref o1)] [(.ref o0)])) _
    refine XS.aloadN X0.here hx rfl (hb hby dWF_1) rfl rfl ?_
    show Steps p.tables e below (s₁.setTop (mkF m 2 #[.val (.ref o0), .val (.ref o1)] [(.ref o1), (.ref o0)])) _
    refine XS.iconst X0.here hx rfl (hb hby dWF_2) ?_
    show Steps p.tables e below (s₁.setTop (mkF m 3 #[.val (.ref o0), .val (.ref o1)] [(.int (0 : Int32)), (.ref o1), (.ref o0)])) _
    refine X0.iaload hx (j := (0 : Int32)) (v := (.int (tf (0 : Int32)))) (by rw [e0]; exact Ar1.1) (State.isArrayOf_alike hZ.alike Ar1.2.1) Ar1.2.2 (inb_of S1 ib1) (Hh1 _ ib1.1 ib1.2) (g := (mkF m 3 #[.val (.ref o0), .val (.ref o1)] [(.int (0 : Int32)), (.ref o1), (.ref o0)])) rfl rfl (hb hby dWF_3) _ ?_
    show Steps p.tables e below (s₁.setTop (mkF m 4 #[.val (.ref o0), .val (.ref o1)] [(.int (tf (0 : Int32))), (.ref o0)])) _
    refine XS.aloadN X0.here hx rfl (hb hby dWF_4) rfl rfl ?_
    show Steps p.tables e below (s₁.setTop (mkF m 5 #[.val (.ref o0), .val (.ref o1)] [(.ref o1), (.int (tf (0 : Int32))), (.ref o0)])) _
    refine XS.iconst X0.here hx rfl (hb hby dWF_5) ?_
    show Steps p.tables e below (s₁.setTop (mkF m 6 #[.val (.ref o0), .val (.ref o1)] [(.int (1 : Int32)), (.ref o1), (.int (tf (0 : Int32))), (.ref o0)])) _
    refine X0.iaload hx (j := (1 : Int32)) (v := (.int (tf (1 : Int32)))) (by rw [e0]; exact Ar2.1) (State.isArrayOf_alike hZ.alike Ar2.2.1) Ar2.2.2 (inb_of S2 ib2) (Hh2 _ ib2.1 ib2.2) (g := (mkF m 6 #[.val (.ref o0), .val (.ref o1)] [(.int (1 : Int32)), (.ref o1), (.int (tf (0 : Int32))), (.ref o0)])) rfl rfl (hb hby dWF_6) _ ?_
    show Steps p.tables e below (s₁.setTop (mkF m 7 #[.val (.ref o0), .val (.ref o1)] [(.int (tf (1 : Int32))), (.int (tf (0 : Int32))), (.ref o0)])) _
    refine XS.aloadN X0.here hx rfl (hb hby dWF_7) rfl rfl ?_
    show Steps p.tables e below (s₁.setTop (mkF m 8 #[.val (.ref o0), .val (.ref o1)] [(.ref o1), (.int (tf (1 : Int32))), (.int (tf (0 : Int32))), (.ref o0)])) _
    refine XS.iconst X0.here hx rfl (hb hby dWF_8) ?_
    show Steps p.tables e below (s₁.setTop (mkF m 9 #[.val (.ref o0), .val (.ref o1)] [(.int (2 : Int32)), (.ref o1), (.int (tf (1 : Int32))), (.int (tf (0 : Int32))), (.ref o0)])) _
    refine X0.iaload hx (j := (2 : Int32)) (v := (.int (tf (2 : Int32)))) (by rw [e0]; exact Ar3.1) (State.isArrayOf_alike hZ.alike Ar3.2.1) Ar3.2.2 (inb_of S3 ib3) (Hh3 _ ib3.1 ib3.2) (g := (mkF m 9 #[.val (.ref o0), .val (.ref o1)] [(.int (2 : Int32)), (.ref o1), (.int (tf (1 : Int32))), (.int (tf (0 : Int32))), (.ref o0)])) rfl rfl (hb hby dWF_9) _ ?_
    show Steps p.tables e below (s₁.setTop (mkF m 10 #[.val (.ref o0), .val (.ref o1)] [(.int (tf (2 : Int32))), (.int (tf (1 : Int32))), (.int (tf (0 : Int32))), (.ref o0)])) _
    refine XS.aloadN X0.here hx rfl (hb hby dWF_10) rfl rfl ?_
    show Steps p.tables e below (s₁.setTop (mkF m 11 #[.val (.ref o0), .val (.ref o1)] [(.ref o1), (.int (tf (2 : Int32))), (.int (tf (1 : Int32))), (.int (tf (0 : Int32))), (.ref o0)])) _
    refine XS.iconst X0.here hx rfl (hb hby dWF_11) ?_
    show Steps p.tables e below (s₁.setTop (mkF m 12 #[.val (.ref o0), .val (.ref o1)] [(.int (3 : Int32)), (.ref o1), (.int (tf (2 : Int32))), (.int (tf (1 : Int32))), (.int (tf (0 : Int32))), (.ref o0)])) _
    refine X0.iaload hx (j := (3 : Int32)) (v := (.int (tf (3 : Int32)))) (by rw [e0]; exact Ar4.1) (State.isArrayOf_alike hZ.alike Ar4.2.1) Ar4.2.2 (inb_of S4 ib4) (Hh4 _ ib4.1 ib4.2) (g := (mkF m 12 #[.val (.ref o0), .val (.ref o1)] [(.int (3 : Int32)), (.ref o1), (.int (tf (2 : Int32))), (.int (tf (1 : Int32))), (.int (tf (0 : Int32))), (.ref o0)])) rfl rfl (hb hby dWF_12) _ ?_
    show Steps p.tables e below (s₁.setTop (mkF m 13 #[.val (.ref o0), .val (.ref o1)] [(.int (tf (3 : Int32))), (.int (tf (2 : Int32))), (.int (tf (1 : Int32))), (.int (tf (0 : Int32))), (.ref o0)])) _
    refine XS.aloadN X0.here hx rfl (hb hby dWF_13) rfl rfl ?_
    show Steps p.tables e below (s₁.setTop (mkF m 14 #[.val (.ref o0), .val (.ref o1)] [(.ref o1), (.int (tf (3 : Int32))), (.int (tf (2 : Int32))), (.int (tf (1 : Int32))), (.int (tf (0 : Int32))), (.ref o0)])) _
    refine XS.iconst X0.here hx rfl (hb hby dWF_14) ?_
    show Steps p.tables e below (s₁.setTop (mkF m 15 #[.val (.ref o0), .val (.ref o1)] [(.int (4 : Int32)), (.ref o1), (.int (tf (3 : Int32))), (.int (tf (2 : Int32))), (.int (tf (1 : Int32))), (.int (tf (0 : Int32))), (.ref o0)])) _
    refine X0.iaload hx (j := (4 : Int32)) (v := (.int (tf (4 : Int32)))) (by rw [e0]; exact Ar5.1) (State.isArrayOf_alike hZ.alike Ar5.2.1) Ar5.2.2 (inb_of S5 ib5) (Hh5 _ ib5.1 ib5.2) (g := (mkF m 15 #[.val (.ref o0), .val (.ref o1)] [(.int (4 : Int32)), (.ref o1), (.int (tf (3 : Int32))), (.int (tf (2 : Int32))), (.int (tf (1 : Int32))), (.int (tf (0 : Int32))), (.ref o0)])) rfl rfl (hb hby dWF_15) _ ?_
    show Steps p.tables e below (s₁.setTop (mkF m 16 #[.val (.ref o0), .val (.ref o1)] [(.int (tf (4 : Int32))), (.int (tf (3 : Int32))), (.int (tf (2 : Int32))), (.int (tf (1 : Int32))), (.int (tf (0 : Int32))), (.ref o0)])) _
    refine st6.trans ?_
    show Steps p.tables e below (T6.setTop (mkF m 19 #[.val (.ref o0), .val (.ref o1)] [(.int (findV st (tf (0 : Int32)) (tf (1 : Int32)) (tf (2 : Int32)) (tf (3 : Int32)) (tf (4 : Int32))))])) _
    exact retI X6 hx Bd.returns (hb hby dWF_19) hr
  · show QWF st tf h0 n0 _ T6.heap _
    rw [e6]
    exact ⟨rfl, N6, rfl⟩
theorem pd_5 : parseMethodDescriptor "()V" = some ⟨[], none⟩ := by decide +kernel
theorem pd_6 : parseMethodDescriptor "(Lcom/example/libforeword/libforeword/tree/NodeStore;[I)I" = some ⟨[(.object "com/example/libforeword/libforeword/tree/NodeStore"), (.array .int)], some .int⟩ := by decide +kernel
theorem ef_0 (m : MethodId) (p0 : Int32) (p1 : Int32) (p2 : Int32) (p3 : Int32) (p4 : Int32) (p5 : Int32) : entryFrame m #[(.int p0), (.int p1), (.int p2), (.int p3), (.int p4), (.int p5)] maxLocals = mkF m 0 #[.val (.int p0), .val (.int p1), .val (.int p2), .val (.int p3), .val (.int p4), .val (.int p5), .unset, .unset, .unset, .unset, .unset, .unset, .unset, .unset, .unset, .unset, .unset, .unset, .unset, .unset, .unset, .unset, .unset, .unset] [] := by first | (simp [entryFrame, mkF, argsToLocals, Value.category, maxLocals]; done) | rfl
def Q0 (h0 : Heap) (n0 : Nat) (v : Option Value) (h : Heap) (L : List Loc) : Prop := v = some (.int 1) ∧ Fr n0 L
set_option maxRecDepth 65536 in
set_option maxHeartbeats 40000000 in
theorem rm0 (l : Launch) (Z : State) (a0 : Array Value) (hw : ∀ d ∈ tables_1, d.before a0 Z = true) (ws : List Jvm.Cond) (p0 p1 p2 p3 p4 p5 : Int32) (h0 : Heap) (n0 : Nat) (Z0 : n0 ≤ h0.size)  :
    MetFree l x (head1 (Jvm.Cond.code x code maxLocals ret :: ws) room_1) (fun a U => a = #[(.int p0), (.int p1), (.int p2), (.int p3), (.int p4), (.int p5)] ∧ Z.Warmed39 U.vm ∧ U.heap = h0) (fun _ _ _ _ _ => True) (fun _ U o U' => ∃ v L, o = .returned v ∧ Q0 h0 n0 v U'.heap L ∧ FrameEnd U o U' L 10 470) := by
  refine MetFree.of_bodySF (plainFor_of_name pn_3) hisR ?_
  intro p e s m args below meth c s₁ Bd hml0 hP hK
  obtain ⟨rfl, hZ, hh⟩ := hP
  have hx := Bd.exec
  have hby := Bd.bytes
  have hml : c.maxLocals = 24 := hml0
  have hown : s.vm.findClass "com/example/libforeword/libforeword/tree/NodeStoreAddPinLaw" = some m.cls := findClass_of_methodNamed Bd.named
  have hnm := (name_of_methodNamed Bd.named Bd.method).1
  have X0 : Stand p l e room_1 s m #[(.int p0), (.int p1), (.int p2), (.int p3), (.int p4), (.int p5)] below meth c s₁ [] 0 0 := Stand.of_body Bd
  have e0 : s₁.heap = h0 := by rw [← hh, Bd.state]; rfl
  have N0 := Fr.nil n0
  have pre0 : ∀ t, Steps p.tables e below (s₁.setTop (mkF m 0 #[.val (.int p0), .val (.int p1), .val (.int p2), .val (.int p3), .val (.int p4), .val (.int p5), .unset, .unset, .unset, .unset, .unset, .unset, .unset, .unset, .unset, .unset, .unset, .unset, .unset, .unset, .unset, .unset, .unset, .unset] [])) t → Steps p.tables e below (s₁.setTop (entryFrame m #[(.int p0), (.int p1), (.int p2), (.int p3), (.int p4), (.int p5)] maxLocals)) t := fun t k => castTop (ef_0 m p0 p1 p2 p3 p4 p5) k
  have pre1 : ∀ t, Steps p.tables e below (s₁.setTop (mkF m 9 #[.val (.int p0), .val (.int p1), .val (.int p2), .val (.int p3), .val (.int p4), .val (.int p5), .val (.int ((p5 &&& (7 : Int32)) - ((p5 &&& (7 : Int32)) / (5 : Int32)) * (5 : Int32))), .unset, .unset, .unset, .unset, .unset, .unset, .unset, .unset, .unset, .unset, .unset, .unset, .unset, .unset, .unset, .unset, .unset] [])) t → Steps p.tables e below (s₁.setTop (entryFrame m #[(.int p0), (.int p1), (.int p2), (.int p3), (.int p4), (.int p5)] maxLocals)) t := fun t kt => pre0 t (by
      show Steps p.tables e below (s₁.setTop (mkF m 0 #[.val (.int p0), .val (.int p1), .val (.int p2), .val (.int p3), .val (.int p4), .val (.int p5), .unset, .unset, .unset, .unset, .unset, .unset, .unset, .unset, .unset, .unset, .unset, .unset, .unset, .unset, .unset, .unset, .unset, .unset] [])) _
      refine XS.iload X0.here hx rfl (hb hby at_0) rfl ?_
      show Steps p.tables e below (s₁.setTop (mkF m 2 #[.val (.int p0), .val (.int p1), .val (.int p2), .val (.int p3), .val (.int p4), .val (.int p5), .unset, .unset, .unset, .unset, .unset, .unset, .unset, .unset, .unset, .unset, .unset, .unset, .unset, .unset, .unset, .unset, .unset, .unset] [(.int p5)])) _
      refine XS.bipush X0.here hx rfl (hb hby at_2) ?_
      show Steps p.tables e below (s₁.setTop (mkF m 4 #[.val (.int p0), .val (.int p1), .val (.int p2), .val (.int p3), .val (.int p4), .val (.int p5), .unset, .unset, .unset, .unset, .unset, .unset, .unset, .unset, .unset, .unset, .unset, .unset, .unset, .unset, .unset, .unset, .unset, .unset] [(.int (7 : Int32)), (.int p5)])) _
      refine XS.iand X0.here hx rfl (hb hby at_4) rfl ?_
      show Steps p.tables e below (s₁.setTop (mkF m 5 #[.val (.int p0), .val (.int p1), .val (.int p2), .val (.int p3), .val (.int p4), .val (.int p5), .unset, .unset, .unset, .unset, .unset, .unset, .unset, .unset, .unset, .unset, .unset, .unset, .unset, .unset, .unset, .unset, .unset, .unset] [(.int (p5 &&& (7 : Int32)))])) _
      refine XS.iconst X0.here hx rfl (hb hby at_5) ?_
      show Steps p.tables e below (s₁.setTop (mkF m 6 #[.val (.int p0), .val (.int p1), .val (.int p2), .val (.int p3), .val (.int p4), .val (.int p5), .unset, .unset, .unset, .unset, .unset, .unset, .unset, .unset, .unset, .unset, .unset, .unset, .unset, .unset, .unset, .unset, .unset, .unset] [(.int (5 : Int32)), (.int (p5 &&& (7 : Int32)))])) _
      refine XS.irem X0.here hx rfl (hb hby at_6) rfl (by decide) ?_
      show Steps p.tables e below (s₁.setTop (mkF m 7 #[.val (.int p0), .val (.int p1), .val (.int p2), .val (.int p3), .val (.int p4), .val (.int p5), .unset, .unset, .unset, .unset, .unset, .unset, .unset, .unset, .unset, .unset, .unset, .unset, .unset, .unset, .unset, .unset, .unset, .unset] [(.int ((p5 &&& (7 : Int32)) - ((p5 &&& (7 : Int32)) / (5 : Int32)) * (5 : Int32)))])) _
      refine XS.istore X0.here hx rfl (hb hby at_7) rfl (l' := #[.val (.int p0), .val (.int p1), .val (.int p2), .val (.int p3), .val (.int p4), .val (.int p5), .val (.int ((p5 &&& (7 : Int32)) - ((p5 &&& (7 : Int32)) / (5 : Int32)) * (5 : Int32))), .unset, .unset, .unset, .unset, .unset, .unset, .unset, .unset, .unset, .unset, .unset, .unset, .unset, .unset, .unset, .unset, .unset]) rfl ?_
      exact kt)
  obtain ⟨kx, hkx⟩ : ∃ z : Int32, z = ((p5 &&& (7 : Int32)) - ((p5 &&& (7 : Int32)) / (5 : Int32)) * (5 : Int32)) := ⟨_, rfl⟩
  rw [← hkx] at pre1
  have hkx2 := hkx
  have hkx := own_kx p5
  rw [← hkx2] at hkx
  have pre2 : ∀ t, Steps p.tables e below (s₁.setTop (mkF m 15 #[.val (.int p0), .val (.int p1), .val (.int p2), .val (.int p3), .val (.int p4), .val (.int p5), .val (.int kx), .val (.int (p5 >>> ((3 : Int32) &&& 31))), .unset, .unset, .unset, .unset, .unset, .unset, .unset, .unset, .unset, .unset, .unset, .unset, .unset, .unset, .unset, .unset] [])) t → Steps p.tables e below (s₁.setTop (entryFrame m #[(.int p0), (.int p1), (.int p2), (.int p3), (.int p4), (.int p5)] maxLocals)) t := fun t kt => pre1 t (by
      show Steps p.tables e below (s₁.setTop (mkF m 9 #[.val (.int p0), .val (.int p1), .val (.int p2), .val (.int p3), .val (.int p4), .val (.int p5), .val (.int kx), .unset, .unset, .unset, .unset, .unset, .unset, .unset, .unset, .unset, .unset, .unset, .unset, .unset, .unset, .unset, .unset, .unset] [])) _
      refine XS.iload X0.here hx rfl (hb hby at_9) rfl ?_
      show Steps p.tables e below (s₁.setTop (mkF m 11 #[.val (.int p0), .val (.int p1), .val (.int p2), .val (.int p3), .val (.int p4), .val (.int p5), .val (.int kx), .unset, .unset, .unset, .unset, .unset, .unset, .unset, .unset, .unset, .unset, .unset, .unset, .unset, .unset, .unset, .unset, .unset] [(.int p5)])) _
      refine XS.iconst X0.here hx rfl (hb hby at_11) ?_
      show Steps p.tables e below (s₁.setTop (mkF m 12 #[.val (.int p0), .val (.int p1), .val (.int p2), .val (.int p3), .val (.int p4), .val (.int p5), .val (.int kx), .unset, .unset, .unset, .unset, .unset, .unset, .unset, .unset, .unset, .unset, .unset, .unset, .unset, .unset, .unset, .unset, .unset] [(.int (3 : Int32)), (.int p5)])) _
      refine XS.ishr X0.here hx rfl (hb hby at_12) rfl ?_
      show Steps p.tables e below (s₁.setTop (mkF m 13 #[.val (.int p0), .val (.int p1), .val (.int p2), .val (.int p3), .val (.int p4), .val (.int p5), .val (.int kx), .unset, .unset, .unset, .unset, .unset, .unset, .unset, .unset, .unset, .unset, .unset, .unset, .unset, .unset, .unset, .unset, .unset] [(.int (p5 >>> ((3 : Int32) &&& 31)))])) _
      refine XS.istore X0.here hx rfl (hb hby at_13) rfl (l' := #[.val (.int p0), .val (.int p1), .val (.int p2), .val (.int p3), .val (.int p4), .val (.int p5), .val (.int kx), .val (.int (p5 >>> ((3 : Int32) &&& 31))), .unset, .unset, .unset, .unset, .unset, .unset, .unset, .unset, .unset, .unset, .unset, .unset, .unset, .unset, .unset, .unset]) rfl ?_
      exact kt)
  obtain ⟨dl, hdl⟩ : ∃ z : Int32, z = (p5 >>> ((3 : Int32) &&& 31)) := ⟨_, rfl⟩
  rw [← hdl] at pre2
  obtain ⟨sm, hsm, pre4⟩ : ∃ sm : Int32, sm = (if dl = (0 : Int32) then (1 : Int32) else 0) ∧ ∀ t, Steps p.tables e below (s₁.setTop (mkF m 25 #[.val (.int p0), .val (.int p1), .val (.int p2), .val (.int p3), .val (.int p4), .val (.int p5), .val (.int kx), .val (.int dl), .unset, .unset, .unset, .unset, .unset, .unset, .unset, .unset, .unset, .unset, .unset, .unset, .unset, .unset, .unset, .unset] [(.int sm)])) t → Steps p.tables e below (s₁.setTop (entryFrame m #[(.int p0), (.int p1), (.int p2), (.int p3), (.int p4), (.int p5)] maxLocals)) t := by
    have pre3 : ∀ t, Steps p.tables e below (s₁.setTop (mkF m 17 #[.val (.int p0), .val (.int p1), .val (.int p2), .val (.int p3), .val (.int p4), .val (.int p5), .val (.int kx), .val (.int dl), .unset, .unset, .unset, .unset, .unset, .unset, .unset, .unset, .unset, .unset, .unset, .unset, .unset, .unset, .unset, .unset] [(.int dl)])) t → Steps p.tables e below (s₁.setTop (entryFrame m #[(.int p0), (.int p1), (.int p2), (.int p3), (.int p4), (.int p5)] maxLocals)) t := fun t kt => pre2 t (by
        show Steps p.tables e below (s₁.setTop (mkF m 15 #[.val (.int p0), .val (.int p1), .val (.int p2), .val (.int p3), .val (.int p4), .val (.int p5), .val (.int kx), .val (.int dl), .unset, .unset, .unset, .unset, .unset, .unset, .unset, .unset, .unset, .unset, .unset, .unset, .unset, .unset, .unset, .unset] [])) _
        refine XS.iload X0.here hx rfl (hb hby at_15) rfl ?_
        exact kt)
    by_cases hc17 : dl = (0 : Int32)
    · exact ⟨(1 : Int32), (by rw [if_pos hc17]), fun t kt => pre3 t (by
          show Steps p.tables e below (s₁.setTop (mkF m 17 #[.val (.int p0), .val (.int p1), .val (.int p2), .val (.int p3), .val (.int p4), .val (.int p5), .val (.int kx), .val (.int dl), .unset, .unset, .unset, .unset, .unset, .unset, .unset, .unset, .unset, .unset, .unset, .unset, .unset, .unset, .unset, .unset] [(.int dl)])) _
          refine XS.ifNo X0.here hx rfl (hb hby at_17) rfl ((if0 _ _).trans (teq (show dl = (0 : Int32) from hc17)).2) ?_
          show Steps p.tables e below (s₁.setTop (mkF m 20 #[.val (.int p0), .val (.int p1), .val (.int p2), .val (.int p3), .val (.int p4), .val (.int p5), .val (.int kx), .val (.int dl), .unset, .unset, .unset, .unset, .unset, .unset, .unset, .unset, .unset, .unset, .unset, .unset, .unset, .unset, .unset, .unset] [])) _
          refine XS.iconst X0.here hx rfl (hb hby at_20) ?_
          show Steps p.tables e below (s₁.setTop (mkF m 21 #[.val (.int p0), .val (.int p1), .val (.int p2), .val (.int p3), .val (.int p4), .val (.int p5), .val (.int kx), .val (.int dl), .unset, .unset, .unset, .unset, .unset, .unset, .unset, .unset, .unset, .unset, .unset, .unset, .unset, .unset, .unset, .unset] [(.int (1 : Int32))])) _
          refine XS.goto X0.here hx rfl (pc0 := 21) (pc' := 25) rfl (hb hby at_21) (by decide) (by decide) ?_
          exact kt)⟩
    · exact ⟨(0 : Int32), (by rw [if_neg hc17]), fun t kt => pre3 t (by
          show Steps p.tables e below (s₁.setTop (mkF m 17 #[.val (.int p0), .val (.int p1), .val (.int p2), .val (.int p3), .val (.int p4), .val (.int p5), .val (.int kx), .val (.int dl), .unset, .unset, .unset, .unset, .unset, .unset, .unset, .unset, .unset, .unset, .unset, .unset, .unset, .unset, .unset, .unset] [(.int dl)])) _
          refine XS.ifYes X0.here hx rfl (pc0 := 17) (pc' := 24) rfl (hb hby at_17) rfl ((if0 _ _).trans (feq (show ¬ (dl = (0 : Int32)) from hc17)).2) (by decide) (by decide) ?_
          show Steps p.tables e below (s₁.setTop (mkF m 24 #[.val (.int p0), .val (.int p1), .val (.int p2), .val (.int p3), .val (.int p4), .val (.int p5), .val (.int kx), .val (.int dl), .unset, .unset, .unset, .unset, .unset, .unset, .unset, .unset, .unset, .unset, .unset, .unset, .unset, .unset, .unset, .unset] [])) _
          refine XS.iconst X0.here hx rfl (hb hby at_24) ?_
          exact kt)⟩
  obtain ⟨T5, h5, k5, X5, e5, E5, A5, st5⟩ := newP X0 hx hZ (hw _ (List.mem_of_getElem? (i := 0) rfl)) e0 (g := (mkF m 28 #[.val (.int p0), .val (.int p1), .val (.int p2), .val (.int p3), .val (.int p4), .val (.int p5), .val (.int kx), .val (.int dl), .val (.int sm), .unset, .unset, .unset, .unset, .unset, .unset, .unset, .unset, .unset, .unset, .unset, .unset, .unset, .unset, .unset] [(.int (5 : Int32))])) rfl (hb hby at_28) rfl (by decide) (cap := 5) (by decide) (by decide) (by decide) (by decide)
  obtain ⟨b5, g5⟩ : ∃ z, z = h0.size := ⟨_, rfl⟩
  rw [← g5] at A5 st5
  have g_b5 : n0 ≤ b5 := Nat.le_trans Z0 (Nat.le_of_eq g5.symm)
  have sz_b5 : h0.size ≤ b5 := Nat.le_trans (Keep.refl h0 []).1 (Nat.le_of_eq g5.symm)
  have K5 : Keep h0 h5 [] := Keep.ext (Keep.refl h0 []) E5
  have Z5 : n0 ≤ h5.size := Nat.le_trans Z0 K5.1
  have V_b5 : ArF Z h5 b5 (5 : Int32) (fun _ => (0 : Int32)) := own_arf_new A5 (by decide)
  obtain ⟨cl6, Ar6, S6, Nn6, Hh6⟩ := id V_b5
  have ib6 : ¬ ((0 : Int32)) < 0 ∧ ((0 : Int32)) < (5 : Int32) := ⟨by decide, by decide⟩
  obtain ⟨T7, h7, X7, e7, W7, st7⟩ := stI X5 hx hZ e5 Ar6 (j := (0 : Int32)) (inb_of S6 ib6) (g := (mkF m 33 #[.val (.int p0), .val (.int p1), .val (.int p2), .val (.int p3), .val (.int p4), .val (.int p5), .val (.int kx), .val (.int dl), .val (.int sm), .unset, .unset, .unset, .unset, .unset, .unset, .unset, .unset, .unset, .unset, .unset, .unset, .unset, .unset, .unset] [(.int p0), (.int (0 : Int32)), (.ref b5), (.ref b5)])) rfl rfl (hb hby at_33)
  have V7 : ArF Z h7 b5 (5 : Int32) (upd (fun _ => (0 : Int32)) (0 : Int32) p0) := own_arf_set Ar6 S6 Nn6 Hh6 W7 ib6
  have K7 : Keep h0 h7 [] := Keep.wr K5 W7 (Or.inr sz_b5)
  have Z7 : n0 ≤ h7.size := Nat.le_trans Z0 K7.1
  have N7 := Fr.snoc X7 N0 g_b5
  obtain ⟨cl8, Ar8, S8, Nn8, Hh8⟩ := id V7
  have ib8 : ¬ ((1 : Int32)) < 0 ∧ ((1 : Int32)) < (5 : Int32) := ⟨by decide, by decide⟩
  obtain ⟨T9, h9, X9, e9, W9, st9⟩ := stI X7 hx hZ e7 Ar8 (j := (1 : Int32)) (inb_of S8 ib8) (g := (mkF m 37 #[.val (.int p0), .val (.int p1), .val (.int p2), .val (.int p3), .val (.int p4), .val (.int p5), .val (.int kx), .val (.int dl), .val (.int sm), .unset, .unset, .unset, .unset, .unset, .unset, .unset, .unset, .unset, .unset, .unset, .unset, .unset, .unset, .unset] [(.int p1), (.int (1 : Int32)), (.ref b5), (.ref b5)])) rfl rfl (hb hby at_37)
  have V9 : ArF Z h9 b5 (5 : Int32) (upd (upd (fun _ => (0 : Int32)) (0 : Int32) p0) (1 : Int32) p1) := own_arf_set Ar8 S8 Nn8 Hh8 W9 ib8
  have K9 : Keep h0 h9 [] := Keep.wr K7 W9 (Or.inr sz_b5)
  have Z9 : n0 ≤ h9.size := Nat.le_trans Z0 K9.1
  have N9 := Fr.snoc X9 N7 g_b5
  obtain ⟨cl10, Ar10, S10, Nn10, Hh10⟩ := id V9
  have ib10 : ¬ ((2 : Int32)) < 0 ∧ ((2 : Int32)) < (5 : Int32) := ⟨by decide, by decide⟩
  obtain ⟨T11, h11, X11, e11, W11, st11⟩ := stI X9 hx hZ e9 Ar10 (j := (2 : Int32)) (inb_of S10 ib10) (g := (mkF m 41 #[.val (.int p0), .val (.int p1), .val (.int p2), .val (.int p3), .val (.int p4), .val (.int p5), .val (.int kx), .val (.int dl), .val (.int sm), .unset, .unset, .unset, .unset, .unset, .unset, .unset, .unset, .unset, .unset, .unset, .unset, .unset, .unset, .unset] [(.int p2), (.int (2 : Int32)), (.ref b5), (.ref b5)])) rfl rfl (hb hby at_41)
  have V11 : ArF Z h11 b5 (5 : Int32) (upd (upd (upd (fun _ => (0 : Int32)) (0 : Int32) p0) (1 : Int32) p1) (2 : Int32) p2) := own_arf_set Ar10 S10 Nn10 Hh10 W11 ib10
  have K11 : Keep h0 h11 [] := Keep.wr K9 W11 (Or.inr sz_b5)
  have Z11 : n0 ≤ h11.size := Nat.le_trans Z0 K11.1
  have N11 := Fr.snoc X11 N9 g_b5
  obtain ⟨cl12, Ar12, S12, Nn12, Hh12⟩ := id V11
  have ib12 : ¬ ((3 : Int32)) < 0 ∧ ((3 : Int32)) < (5 : Int32) := ⟨by decide, by decide⟩
  obtain ⟨T13, h13, X13, e13, W13, st13⟩ := stI X11 hx hZ e11 Ar12 (j := (3 : Int32)) (inb_of S12 ib12) (g := (mkF m 45 #[.val (.int p0), .val (.int p1), .val (.int p2), .val (.int p3), .val (.int p4), .val (.int p5), .val (.int kx), .val (.int dl), .val (.int sm), .unset, .unset, .unset, .unset, .unset, .unset, .unset, .unset, .unset, .unset, .unset, .unset, .unset, .unset, .unset] [(.int p3), (.int (3 : Int32)), (.ref b5), (.ref b5)])) rfl rfl (hb hby at_45)
  have V13 : ArF Z h13 b5 (5 : Int32) (upd (upd (upd (upd (fun _ => (0 : Int32)) (0 : Int32) p0) (1 : Int32) p1) (2 : Int32) p2) (3 : Int32) p3) := own_arf_set Ar12 S12 Nn12 Hh12 W13 ib12
  have K13 : Keep h0 h13 [] := Keep.wr K11 W13 (Or.inr sz_b5)
  have Z13 : n0 ≤ h13.size := Nat.le_trans Z0 K13.1
  have N13 := Fr.snoc X13 N11 g_b5
  obtain ⟨cl14, Ar14, S14, Nn14, Hh14⟩ := id V13
  have ib14 : ¬ ((4 : Int32)) < 0 ∧ ((4 : Int32)) < (5 : Int32) := ⟨by decide, by decide⟩
  obtain ⟨T15, h15, X15, e15, W15, st15⟩ := stI X13 hx hZ e13 Ar14 (j := (4 : Int32)) (inb_of S14 ib14) (g := (mkF m 50 #[.val (.int p0), .val (.int p1), .val (.int p2), .val (.int p3), .val (.int p4), .val (.int p5), .val (.int kx), .val (.int dl), .val (.int sm), .unset, .unset, .unset, .unset, .unset, .unset, .unset, .unset, .unset, .unset, .unset, .unset, .unset, .unset, .unset] [(.int p4), (.int (4 : Int32)), (.ref b5), (.ref b5)])) rfl rfl (hb hby at_50)
  have V15 : ArF Z h15 b5 (5 : Int32) (upd (upd (upd (upd (upd (fun _ => (0 : Int32)) (0 : Int32) p0) (1 : Int32) p1) (2 : Int32) p2) (3 : Int32) p3) (4 : Int32) p4) := own_arf_set Ar14 S14 Nn14 Hh14 W15 ib14
  have K15 : Keep h0 h15 [] := Keep.wr K13 W15 (Or.inr sz_b5)
  have Z15 : n0 ≤ h15.size := Nat.le_trans Z0 K15.1
  have N15 := Fr.snoc X15 N13 g_b5
  obtain ⟨f1, hf1⟩ : ∃ z : Int32 → Int32, z = (upd (upd (upd (upd (upd (fun _ => (0 : Int32)) (0 : Int32) p0) (1 : Int32) p1) (2 : Int32) p2) (3 : Int32) p3) (4 : Int32) p4) := ⟨_, rfl⟩
  have Af1 := V15
  rw [← hf1] at Af1
  obtain ⟨T16, h16, k16, X16, e16, E16, A16, st16⟩ := newP X15 hx hZ (hw _ (List.mem_of_getElem? (i := 0) rfl)) e15 (g := (mkF m 54 #[.val (.int p0), .val (.int p1), .val (.int p2), .val (.int p3), .val (.int p4), .val (.int p5), .val (.int kx), .val (.int dl), .val (.int sm), .val (.ref b5), .unset, .unset, .unset, .unset, .unset, .unset, .unset, .unset, .unset, .unset, .unset, .unset, .unset, .unset] [(.int (5 : Int32))])) rfl (hb hby at_54) rfl (by decide) (cap := 5) (by decide) (by decide) (by decide) (by decide)
  obtain ⟨b16, g16⟩ : ∃ z, z = h15.size := ⟨_, rfl⟩
  rw [← g16] at A16 st16
  have g_b16 : n0 ≤ b16 := Nat.le_trans Z15 (Nat.le_of_eq g16.symm)
  have sz_b16 : h0.size ≤ b16 := Nat.le_trans K15.1 (Nat.le_of_eq g16.symm)
  have ne_b5_b16 : b5 ≠ b16 := Nat.ne_of_lt (Nat.lt_of_lt_of_le Af1.lt (Nat.le_of_eq g16.symm))
  have K16 : Keep h0 h16 [] := Keep.ext K15 E16
  have Z16 : n0 ≤ h16.size := Nat.le_trans Z0 K16.1
  have V_b16 : ArF Z h16 b16 (5 : Int32) (fun _ => (0 : Int32)) := own_arf_new A16 (by decide)
  obtain ⟨cl17, Ar17, S17, Nn17, Hh17⟩ := id V_b16
  have ib17 : ¬ ((0 : Int32)) < 0 ∧ ((0 : Int32)) < (5 : Int32) := ⟨by decide, by decide⟩
  obtain ⟨T18, h18, X18, e18, W18, st18⟩ := stI X16 hx hZ e16 Ar17 (j := (0 : Int32)) (inb_of S17 ib17) (g := (mkF m 59 #[.val (.int p0), .val (.int p1), .val (.int p2), .val (.int p3), .val (.int p4), .val (.int p5), .val (.int kx), .val (.int dl), .val (.int sm), .val (.ref b5), .unset, .unset, .unset, .unset, .unset, .unset, .unset, .unset, .unset, .unset, .unset, .unset, .unset, .unset] [(.int p0), (.int (0 : Int32)), (.ref b16), (.ref b16)])) rfl rfl (hb hby at_59)
  have V18 : ArF Z h18 b16 (5 : Int32) (upd (fun _ => (0 : Int32)) (0 : Int32) p0) := own_arf_set Ar17 S17 Nn17 Hh17 W18 ib17
  have K18 : Keep h0 h18 [] := Keep.wr K16 W18 (Or.inr sz_b16)
  have Z18 : n0 ≤ h18.size := Nat.le_trans Z0 K18.1
  have N18 := Fr.snoc X18 N15 g_b16
  obtain ⟨cl19, Ar19, S19, Nn19, Hh19⟩ := id V18
  have ib19 : ¬ ((1 : Int32)) < 0 ∧ ((1 : Int32)) < (5 : Int32) := ⟨by decide, by decide⟩
  obtain ⟨T20, h20, X20, e20, W20, st20⟩ := stI X18 hx hZ e18 Ar19 (j := (1 : Int32)) (inb_of S19 ib19) (g := (mkF m 63 #[.val (.int p0), .val (.int p1), .val (.int p2), .val (.int p3), .val (.int p4), .val (.int p5), .val (.int kx), .val (.int dl), .val (.int sm), .val (.ref b5), .unset, .unset, .unset, .unset, .unset, .unset, .unset, .unset, .unset, .unset, .unset, .unset, .unset, .unset] [(.int p1), (.int (1 : Int32)), (.ref b16), (.ref b16)])) rfl rfl (hb hby at_63)
  have V20 : ArF Z h20 b16 (5 : Int32) (upd (upd (fun _ => (0 : Int32)) (0 : Int32) p0) (1 : Int32) p1) := own_arf_set Ar19 S19 Nn19 Hh19 W20 ib19
  have K20 : Keep h0 h20 [] := Keep.wr K18 W20 (Or.inr sz_b16)
  have Z20 : n0 ≤ h20.size := Nat.le_trans Z0 K20.1
  have N20 := Fr.snoc X20 N18 g_b16
  obtain ⟨cl21, Ar21, S21, Nn21, Hh21⟩ := id V20
  have ib21 : ¬ ((2 : Int32)) < 0 ∧ ((2 : Int32)) < (5 : Int32) := ⟨by decide, by decide⟩
  obtain ⟨T22, h22, X22, e22, W22, st22⟩ := stI X20 hx hZ e20 Ar21 (j := (2 : Int32)) (inb_of S21 ib21) (g := (mkF m 67 #[.val (.int p0), .val (.int p1), .val (.int p2), .val (.int p3), .val (.int p4), .val (.int p5), .val (.int kx), .val (.int dl), .val (.int sm), .val (.ref b5), .unset, .unset, .unset, .unset, .unset, .unset, .unset, .unset, .unset, .unset, .unset, .unset, .unset, .unset] [(.int p2), (.int (2 : Int32)), (.ref b16), (.ref b16)])) rfl rfl (hb hby at_67)
  have V22 : ArF Z h22 b16 (5 : Int32) (upd (upd (upd (fun _ => (0 : Int32)) (0 : Int32) p0) (1 : Int32) p1) (2 : Int32) p2) := own_arf_set Ar21 S21 Nn21 Hh21 W22 ib21
  have K22 : Keep h0 h22 [] := Keep.wr K20 W22 (Or.inr sz_b16)
  have Z22 : n0 ≤ h22.size := Nat.le_trans Z0 K22.1
  have N22 := Fr.snoc X22 N20 g_b16
  obtain ⟨cl23, Ar23, S23, Nn23, Hh23⟩ := id V22
  have ib23 : ¬ ((3 : Int32)) < 0 ∧ ((3 : Int32)) < (5 : Int32) := ⟨by decide, by decide⟩
  obtain ⟨T24, h24, X24, e24, W24, st24⟩ := stI X22 hx hZ e22 Ar23 (j := (3 : Int32)) (inb_of S23 ib23) (g := (mkF m 71 #[.val (.int p0), .val (.int p1), .val (.int p2), .val (.int p3), .val (.int p4), .val (.int p5), .val (.int kx), .val (.int dl), .val (.int sm), .val (.ref b5), .unset, .unset, .unset, .unset, .unset, .unset, .unset, .unset, .unset, .unset, .unset, .unset, .unset, .unset] [(.int p3), (.int (3 : Int32)), (.ref b16), (.ref b16)])) rfl rfl (hb hby at_71)
  have V24 : ArF Z h24 b16 (5 : Int32) (upd (upd (upd (upd (fun _ => (0 : Int32)) (0 : Int32) p0) (1 : Int32) p1) (2 : Int32) p2) (3 : Int32) p3) := own_arf_set Ar23 S23 Nn23 Hh23 W24 ib23
  have K24 : Keep h0 h24 [] := Keep.wr K22 W24 (Or.inr sz_b16)
  have Z24 : n0 ≤ h24.size := Nat.le_trans Z0 K24.1
  have N24 := Fr.snoc X24 N22 g_b16
  obtain ⟨cl25, Ar25, S25, Nn25, Hh25⟩ := id V24
  have ib25 : ¬ ((4 : Int32)) < 0 ∧ ((4 : Int32)) < (5 : Int32) := ⟨by decide, by decide⟩
  obtain ⟨T26, h26, X26, e26, W26, st26⟩ := stI X24 hx hZ e24 Ar25 (j := (4 : Int32)) (inb_of S25 ib25) (g := (mkF m 76 #[.val (.int p0), .val (.int p1), .val (.int p2), .val (.int p3), .val (.int p4), .val (.int p5), .val (.int kx), .val (.int dl), .val (.int sm), .val (.ref b5), .unset, .unset, .unset, .unset, .unset, .unset, .unset, .unset, .unset, .unset, .unset, .unset, .unset, .unset] [(.int p4), (.int (4 : Int32)), (.ref b16), (.ref b16)])) rfl rfl (hb hby at_76)
  have V26 : ArF Z h26 b16 (5 : Int32) (upd (upd (upd (upd (upd (fun _ => (0 : Int32)) (0 : Int32) p0) (1 : Int32) p1) (2 : Int32) p2) (3 : Int32) p3) (4 : Int32) p4) := own_arf_set Ar25 S25 Nn25 Hh25 W26 ib25
  have K26 : Keep h0 h26 [] := Keep.wr K24 W26 (Or.inr sz_b16)
  have Z26 : n0 ≤ h26.size := Nat.le_trans Z0 K26.1
  have N26 := Fr.snoc X26 N24 g_b16
  have f27 := ((((((Af1.ext E16).other W18 ne_b5_b16).other W20 ne_b5_b16).other W22 ne_b5_b16).other W24 ne_b5_b16).other W26 ne_b5_b16)
  obtain ⟨T28, h28, k28, X28, e28, E28, A28, st28⟩ := newP X26 hx hZ (hw _ (List.mem_of_getElem? (i := 0) rfl)) e26 (g := (mkF m 80 #[.val (.int p0), .val (.int p1), .val (.int p2), .val (.int p3), .val (.int p4), .val (.int p5), .val (.int kx), .val (.int dl), .val (.int sm), .val (.ref b5), .val (.ref b16), .unset, .unset, .unset, .unset, .unset, .unset, .unset, .unset, .unset, .unset, .unset, .unset, .unset] [(.int (5 : Int32))])) rfl (hb hby at_80) rfl (by decide) (cap := 5) (by decide) (by decide) (by decide) (by decide)
  obtain ⟨b28, g28⟩ : ∃ z, z = h26.size := ⟨_, rfl⟩
  rw [← g28] at A28 st28
  have g_b28 : n0 ≤ b28 := Nat.le_trans Z26 (Nat.le_of_eq g28.symm)
  have sz_b28 : h0.size ≤ b28 := Nat.le_trans K26.1 (Nat.le_of_eq g28.symm)
  have ne_b5_b28 : b5 ≠ b28 := Nat.ne_of_lt (Nat.lt_of_lt_of_le f27.lt (Nat.le_of_eq g28.symm))
  have ne_b16_b28 : b16 ≠ b28 := Nat.ne_of_lt (Nat.lt_of_lt_of_le V26.lt (Nat.le_of_eq g28.symm))
  have K28 : Keep h0 h28 [] := Keep.ext K26 E28
  have Z28 : n0 ≤ h28.size := Nat.le_trans Z0 K28.1
  have V_b28 : ArF Z h28 b28 (5 : Int32) (fun _ => (0 : Int32)) := own_arf_new A28 (by decide)
  obtain ⟨cl29, Ar29, S29, Nn29, Hh29⟩ := id V_b28
  have ib29 : ¬ ((0 : Int32)) < 0 ∧ ((0 : Int32)) < (5 : Int32) := ⟨by decide, by decide⟩
  obtain ⟨T30, h30, X30, e30, W30, st30⟩ := stI X28 hx hZ e28 Ar29 (j := (0 : Int32)) (inb_of S29 ib29) (g := (mkF m 85 #[.val (.int p0), .val (.int p1), .val (.int p2), .val (.int p3), .val (.int p4), .val (.int p5), .val (.int kx), .val (.int dl), .val (.int sm), .val (.ref b5), .val (.ref b16), .unset, .unset, .unset, .unset, .unset, .unset, .unset, .unset, .unset, .unset, .unset, .unset, .unset] [(.int p0), (.int (0 : Int32)), (.ref b28), (.ref b28)])) rfl rfl (hb hby at_85)
  have V30 : ArF Z h30 b28 (5 : Int32) (upd (fun _ => (0 : Int32)) (0 : Int32) p0) := own_arf_set Ar29 S29 Nn29 Hh29 W30 ib29
  have K30 : Keep h0 h30 [] := Keep.wr K28 W30 (Or.inr sz_b28)
  have Z30 : n0 ≤ h30.size := Nat.le_trans Z0 K30.1
  have N30 := Fr.snoc X30 N26 g_b28
  obtain ⟨cl31, Ar31, S31, Nn31, Hh31⟩ := id V30
  have ib31 : ¬ ((1 : Int32)) < 0 ∧ ((1 : Int32)) < (5 : Int32) := ⟨by decide, by decide⟩
  obtain ⟨T32, h32, X32, e32, W32, st32⟩ := stI X30 hx hZ e30 Ar31 (j := (1 : Int32)) (inb_of S31 ib31) (g := (mkF m 89 #[.val (.int p0), .val (.int p1), .val (.int p2), .val (.int p3), .val (.int p4), .val (.int p5), .val (.int kx), .val (.int dl), .val (.int sm), .val (.ref b5), .val (.ref b16), .unset, .unset, .unset, .unset, .unset, .unset, .unset, .unset, .unset, .unset, .unset, .unset, .unset] [(.int p1), (.int (1 : Int32)), (.ref b28), (.ref b28)])) rfl rfl (hb hby at_89)
  have V32 : ArF Z h32 b28 (5 : Int32) (upd (upd (fun _ => (0 : Int32)) (0 : Int32) p0) (1 : Int32) p1) := own_arf_set Ar31 S31 Nn31 Hh31 W32 ib31
  have K32 : Keep h0 h32 [] := Keep.wr K30 W32 (Or.inr sz_b28)
  have Z32 : n0 ≤ h32.size := Nat.le_trans Z0 K32.1
  have N32 := Fr.snoc X32 N30 g_b28
  obtain ⟨cl33, Ar33, S33, Nn33, Hh33⟩ := id V32
  have ib33 : ¬ ((2 : Int32)) < 0 ∧ ((2 : Int32)) < (5 : Int32) := ⟨by decide, by decide⟩
  obtain ⟨T34, h34, X34, e34, W34, st34⟩ := stI X32 hx hZ e32 Ar33 (j := (2 : Int32)) (inb_of S33 ib33) (g := (mkF m 93 #[.val (.int p0), .val (.int p1), .val (.int p2), .val (.int p3), .val (.int p4), .val (.int p5), .val (.int kx), .val (.int dl), .val (.int sm), .val (.ref b5), .val (.ref b16), .unset, .unset, .unset, .unset, .unset, .unset, .unset, .unset, .unset, .unset, .unset, .unset, .unset] [(.int p2), (.int (2 : Int32)), (.ref b28), (.ref b28)])) rfl rfl (hb hby at_93)
  have V34 : ArF Z h34 b28 (5 : Int32) (upd (upd (upd (fun _ => (0 : Int32)) (0 : Int32) p0) (1 : Int32) p1) (2 : Int32) p2) := own_arf_set Ar33 S33 Nn33 Hh33 W34 ib33
  have K34 : Keep h0 h34 [] := Keep.wr K32 W34 (Or.inr sz_b28)
  have Z34 : n0 ≤ h34.size := Nat.le_trans Z0 K34.1
  have N34 := Fr.snoc X34 N32 g_b28
  obtain ⟨cl35, Ar35, S35, Nn35, Hh35⟩ := id V34
  have ib35 : ¬ ((3 : Int32)) < 0 ∧ ((3 : Int32)) < (5 : Int32) := ⟨by decide, by decide⟩
  obtain ⟨T36, h36, X36, e36, W36, st36⟩ := stI X34 hx hZ e34 Ar35 (j := (3 : Int32)) (inb_of S35 ib35) (g := (mkF m 97 #[.val (.int p0), .val (.int p1), .val (.int p2), .val (.int p3), .val (.int p4), .val (.int p5), .val (.int kx), .val (.int dl), .val (.int sm), .val (.ref b5), .val (.ref b16), .unset, .unset, .unset, .unset, .unset, .unset, .unset, .unset, .unset, .unset, .unset, .unset, .unset] [(.int p3), (.int (3 : Int32)), (.ref b28), (.ref b28)])) rfl rfl (hb hby at_97)
  have V36 : ArF Z h36 b28 (5 : Int32) (upd (upd (upd (upd (fun _ => (0 : Int32)) (0 : Int32) p0) (1 : Int32) p1) (2 : Int32) p2) (3 : Int32) p3) := own_arf_set Ar35 S35 Nn35 Hh35 W36 ib35
  have K36 : Keep h0 h36 [] := Keep.wr K34 W36 (Or.inr sz_b28)
  have Z36 : n0 ≤ h36.size := Nat.le_trans Z0 K36.1
  have N36 := Fr.snoc X36 N34 g_b28
  obtain ⟨cl37, Ar37, S37, Nn37, Hh37⟩ := id V36
  have ib37 : ¬ ((4 : Int32)) < 0 ∧ ((4 : Int32)) < (5 : Int32) := ⟨by decide, by decide⟩
  obtain ⟨T38, h38, X38, e38, W38, st38⟩ := stI X36 hx hZ e36 Ar37 (j := (4 : Int32)) (inb_of S37 ib37) (g := (mkF m 102 #[.val (.int p0), .val (.int p1), .val (.int p2), .val (.int p3), .val (.int p4), .val (.int p5), .val (.int kx), .val (.int dl), .val (.int sm), .val (.ref b5), .val (.ref b16), .unset, .unset, .unset, .unset, .unset, .unset, .unset, .unset, .unset, .unset, .unset, .unset, .unset] [(.int p4), (.int (4 : Int32)), (.ref b28), (.ref b28)])) rfl rfl (hb hby at_102)
  have V38 : ArF Z h38 b28 (5 : Int32) (upd (upd (upd (upd (upd (fun _ => (0 : Int32)) (0 : Int32) p0) (1 : Int32) p1) (2 : Int32) p2) (3 : Int32) p3) (4 : Int32) p4) := own_arf_set Ar37 S37 Nn37 Hh37 W38 ib37
  have K38 : Keep h0 h38 [] := Keep.wr K36 W38 (Or.inr sz_b28)
  have Z38 : n0 ≤ h38.size := Nat.le_trans Z0 K38.1
  have N38 := Fr.snoc X38 N36 g_b28
  have f39 := ((((((V26.ext E28).other W30 ne_b16_b28).other W32 ne_b16_b28).other W34 ne_b16_b28).other W36 ne_b16_b28).other W38 ne_b16_b28)
  obtain ⟨cl40, Ar40, S40, Nn40, Hh40⟩ := id f39
  have ib40 : ¬ (kx) < 0 ∧ (kx) < (5 : Int32) := hkx
  obtain ⟨cl41, Ar41, S41, Nn41, Hh41⟩ := id f39
  have ib41 : ¬ (kx) < 0 ∧ (kx) < (5 : Int32) := hkx
  obtain ⟨T42, h42, X42, e42, W42, st42⟩ := stI X38 hx hZ e38 Ar41 (j := kx) (inb_of S41 ib41) (g := (mkF m 117 #[.val (.int p0), .val (.int p1), .val (.int p2), .val (.int p3), .val (.int p4), .val (.int p5), .val (.int kx), .val (.int dl), .val (.int sm), .val (.ref b5), .val (.ref b16), .val (.ref b28), .unset, .unset, .unset, .unset, .unset, .unset, .unset, .unset, .unset, .unset, .unset, .unset] [(.int (((upd (upd (upd (upd (upd (fun _ => (0 : Int32)) (0 : Int32) p0) (1 : Int32) p1) (2 : Int32) p2) (3 : Int32) p3) (4 : Int32) p4) kx) + dl)), (.int kx), (.ref b16)])) rfl rfl (hb hby at_117)
  have V42 : ArF Z h42 b16 (5 : Int32) (upd (upd (upd (upd (upd (upd (fun _ => (0 : Int32)) (0 : Int32) p0) (1 : Int32) p1) (2 : Int32) p2) (3 : Int32) p3) (4 : Int32) p4) kx (((upd (upd (upd (upd (upd (fun _ => (0 : Int32)) (0 : Int32) p0) (1 : Int32) p1) (2 : Int32) p2) (3 : Int32) p3) (4 : Int32) p4) kx) + dl)) := own_arf_set Ar41 S41 Nn41 Hh41 W42 ib41
  have K42 : Keep h0 h42 [] := Keep.wr K38 W42 (Or.inr sz_b16)
  have Z42 : n0 ≤ h42.size := Nat.le_trans Z0 K42.1
  have N42 := Fr.snoc X42 N38 g_b16
  have f43 := (V38.other W42 (Ne.symm ne_b16_b28))
  obtain ⟨cl44, Ar44, S44, Nn44, Hh44⟩ := id f43
  have ib44 : ¬ (kx) < 0 ∧ (kx) < (5 : Int32) := hkx
  obtain ⟨cl45, Ar45, S45, Nn45, Hh45⟩ := id f43
  have ib45 : ¬ (kx) < 0 ∧ (kx) < (5 : Int32) := hkx
  obtain ⟨T46, h46, X46, e46, W46, st46⟩ := stI X42 hx hZ e42 Ar45 (j := kx) (inb_of S45 ib45) (g := (mkF m 130 #[.val (.int p0), .val (.int p1), .val (.int p2), .val (.int p3), .val (.int p4), .val (.int p5), .val (.int kx), .val (.int dl), .val (.int sm), .val (.ref b5), .val (.ref b16), .val (.ref b28), .unset, .unset, .unset, .unset, .unset, .unset, .unset, .unset, .unset, .unset, .unset, .unset] [(.int (((upd (upd (upd (upd (upd (fun _ => (0 : Int32)) (0 : Int32) p0) (1 : Int32) p1) (2 : Int32) p2) (3 : Int32) p3) (4 : Int32) p4) kx) - dl)), (.int kx), (.ref b28)])) rfl rfl (hb hby at_130)
  have V46 : ArF Z h46 b28 (5 : Int32) (upd (upd (upd (upd (upd (upd (fun _ => (0 : Int32)) (0 : Int32) p0) (1 : Int32) p1) (2 : Int32) p2) (3 : Int32) p3) (4 : Int32) p4) kx (((upd (upd (upd (upd (upd (fun _ => (0 : Int32)) (0 : Int32) p0) (1 : Int32) p1) (2 : Int32) p2) (3 : Int32) p3) (4 : Int32) p4) kx) - dl)) := own_arf_set Ar45 S45 Nn45 Hh45 W46 ib45
  have K46 : Keep h0 h46 [] := Keep.wr K42 W46 (Or.inr sz_b28)
  have Z46 : n0 ≤ h46.size := Nat.le_trans Z0 K46.1
  have N46 := Fr.snoc X46 N42 g_b28
  obtain ⟨lx47, Xx47, Nx47⟩ : ∃ lx, Stand p l e room_1 s m #[(.int p0), (.int p1), (.int p2), (.int p3), (.int p4), (.int p5)] below meth c T46 lx 3 15 ∧ Fr n0 lx := ⟨_, X46, N46⟩
  have f48 := (V42.other W46 ne_b16_b28)
  obtain ⟨f2, hf2⟩ : ∃ z : Int32 → Int32, z = (upd (upd (upd (upd (upd (upd (fun _ => (0 : Int32)) (0 : Int32) p0) (1 : Int32) p1) (2 : Int32) p2) (3 : Int32) p3) (4 : Int32) p4) kx (((upd (upd (upd (upd (upd (fun _ => (0 : Int32)) (0 : Int32) p0) (1 : Int32) p1) (2 : Int32) p2) (3 : Int32) p3) (4 : Int32) p4) kx) + dl)) := ⟨_, rfl⟩
  have Af2 := f48
  rw [← hf2] at Af2
  obtain ⟨f3, hf3⟩ : ∃ z : Int32 → Int32, z = (upd (upd (upd (upd (upd (upd (fun _ => (0 : Int32)) (0 : Int32) p0) (1 : Int32) p1) (2 : Int32) p2) (3 : Int32) p3) (4 : Int32) p4) kx (((upd (upd (upd (upd (upd (fun _ => (0 : Int32)) (0 : Int32) p0) (1 : Int32) p1) (2 : Int32) p2) (3 : Int32) p3) (4 : Int32) p4) kx) - dl)) := ⟨_, rfl⟩
  have Af3 := V46
  rw [← hf3] at Af3
  obtain ⟨s1, hs1⟩ : ∃ z : NSt, z = addS emptyS (f1 (0 : Int32)) (f1 (1 : Int32)) (f1 (2 : Int32)) (f1 (3 : Int32)) (f1 (4 : Int32)) := ⟨_, rfl⟩
  obtain ⟨s2, hs2⟩ : ∃ z : NSt, z = addS s1 (f2 (0 : Int32)) (f2 (1 : Int32)) (f2 (2 : Int32)) (f2 (3 : Int32)) (f2 (4 : Int32)) := ⟨_, rfl⟩
  obtain ⟨s3, hs3⟩ : ∃ z : NSt, z = addS s2 (f3 (0 : Int32)) (f3 (1 : Int32)) (f3 (2 : Int32)) (f3 (3 : Int32)) (f3 (4 : Int32)) := ⟨_, rfl⟩
  obtain ⟨s4, hs4⟩ : ∃ z : NSt, z = addS s3 (f1 (0 : Int32)) (f1 (1 : Int32)) (f1 (2 : Int32)) (f1 (3 : Int32)) (f1 (4 : Int32)) := ⟨_, rfl⟩
  obtain ⟨r1, r2, r3, r4, r5, r6, r7, v1, v2, v3, v4, v5, v6, v7, v8⟩ := own_j2 f1 f2 f3 kx dl s1 s2 s3 s4 hs1 hs2 hs3 hs4 hkx (by rw [hdl]; exact own_sar3 p5) (by rw [hf2, hf1]) (by rw [hf3, hf1])
  have pre49 : ∀ t, Steps p.tables e below (T46.setTop (mkF m 131 #[.val (.int p0), .val (.int p1), .val (.int p2), .val (.int p3), .val (.int p4), .val (.int p5), .val (.int kx), .val (.int dl), .val (.int sm), .val (.ref b5), .val (.ref b16), .val (.ref b28), .unset, .unset, .unset, .unset, .unset, .unset, .unset, .unset, .unset, .unset, .unset, .unset] [])) t → Steps p.tables e below (s₁.setTop (entryFrame m #[(.int p0), (.int p1), (.int p2), (.int p3), (.int p4), (.int p5)] maxLocals)) t := fun t kt => pre4 t (by
      show Steps p.tables e below (s₁.setTop (mkF m 25 #[.val (.int p0), .val (.int p1), .val (.int p2), .val (.int p3), .val (.int p4), .val (.int p5), .val (.int kx), .val (.int dl), .unset, .unset, .unset, .unset, .unset, .unset, .unset, .unset, .unset, .unset, .unset, .unset, .unset, .unset, .unset, .unset] [(.int sm)])) _
      refine XS.istore X0.here hx rfl (hb hby at_25) rfl (l' := #[.val (.int p0), .val (.int p1), .val (.int p2), .val (.int p3), .val (.int p4), .val (.int p5), .val (.int kx), .val (.int dl), .val (.int sm), .unset, .unset, .unset, .unset, .unset, .unset, .unset, .unset, .unset, .unset, .unset, .unset, .unset, .unset, .unset]) rfl ?_
      show Steps p.tables e below (s₁.setTop (mkF m 27 #[.val (.int p0), .val (.int p1), .val (.int p2), .val (.int p3), .val (.int p4), .val (.int p5), .val (.int kx), .val (.int dl), .val (.int sm), .unset, .unset, .unset, .unset, .unset, .unset, .unset, .unset, .unset, .unset, .unset, .unset, .unset, .unset, .unset] [])) _
      refine XS.iconst X0.here hx rfl (hb hby at_27) ?_
      show Steps p.tables e below (s₁.setTop (mkF m 28 #[.val (.int p0), .val (.int p1), .val (.int p2), .val (.int p3), .val (.int p4), .val (.int p5), .val (.int kx), .val (.int dl), .val (.int sm), .unset, .unset, .unset, .unset, .unset, .unset, .unset, .unset, .unset, .unset, .unset, .unset, .unset, .unset, .unset] [(.int (5 : Int32))])) _
      refine st5 _ ?_
      show Steps p.tables e below (T5.setTop (mkF m 30 #[.val (.int p0), .val (.int p1), .val (.int p2), .val (.int p3), .val (.int p4), .val (.int p5), .val (.int kx), .val (.int dl), .val (.int sm), .unset, .unset, .unset, .unset, .unset, .unset, .unset, .unset, .unset, .unset, .unset, .unset, .unset, .unset, .unset] [(.ref b5)])) _
      refine XS.dup X5.here hx rfl (hb hby at_30) rfl rfl ?_
      show Steps p.tables e below (T5.setTop (mkF m 31 #[.val (.int p0), .val (.int p1), .val (.int p2), .val (.int p3), .val (.int p4), .val (.int p5), .val (.int kx), .val (.int dl), .val (.int sm), .unset, .unset, .unset, .unset, .unset, .unset, .unset, .unset, .unset, .unset, .unset, .unset, .unset, .unset, .unset] [(.ref b5), (.ref b5)])) _
      refine XS.iconst X5.here hx rfl (hb hby at_31) ?_
      show Steps p.tables e below (T5.setTop (mkF m 32 #[.val (.int p0), .val (.int p1), .val (.int p2), .val (.int p3), .val (.int p4), .val (.int p5), .val (.int kx), .val (.int dl), .val (.int sm), .unset, .unset, .unset, .unset, .unset, .unset, .unset, .unset, .unset, .unset, .unset, .unset, .unset, .unset, .unset] [(.int (0 : Int32)), (.ref b5), (.ref b5)])) _
      refine XS.iloadN X5.here hx rfl (hb hby at_32) rfl ?_
      show Steps p.tables e below (T5.setTop (mkF m 33 #[.val (.int p0), .val (.int p1), .val (.int p2), .val (.int p3), .val (.int p4), .val (.int p5), .val (.int kx), .val (.int dl), .val (.int sm), .unset, .unset, .unset, .unset, .unset, .unset, .unset, .unset, .unset, .unset, .unset, .unset, .unset, .unset, .unset] [(.int p0), (.int (0 : Int32)), (.ref b5), (.ref b5)])) _
      refine st7 _ ?_
      show Steps p.tables e below (T7.setTop (mkF m 34 #[.val (.int p0), .val (.int p1), .val (.int p2), .val (.int p3), .val (.int p4), .val (.int p5), .val (.int kx), .val (.int dl), .val (.int sm), .unset, .unset, .unset, .unset, .unset, .unset, .unset, .unset, .unset, .unset, .unset, .unset, .unset, .unset, .unset] [(.ref b5)])) _
      refine XS.dup X7.here hx rfl (hb hby at_34) rfl rfl ?_
      show Steps p.tables e below (T7.setTop (mkF m 35 #[.val (.int p0), .val (.int p1), .val (.int p2), .val (.int p3), .val (.int p4), .val (.int p5), .val (.int kx), .val (.int dl), .val (.int sm), .unset, .unset, .unset, .unset, .unset, .unset, .unset, .unset, .unset, .unset, .unset, .unset, .unset, .unset, .unset] [(.ref b5), (.ref b5)])) _
      refine XS.iconst X7.here hx rfl (hb hby at_35) ?_
      show Steps p.tables e below (T7.setTop (mkF m 36 #[.val (.int p0), .val (.int p1), .val (.int p2), .val (.int p3), .val (.int p4), .val (.int p5), .val (.int kx), .val (.int dl), .val (.int sm), .unset, .unset, .unset, .unset, .unset, .unset, .unset, .unset, .unset, .unset, .unset, .unset, .unset, .unset, .unset] [(.int (1 : Int32)), (.ref b5), (.ref b5)])) _
      refine XS.iloadN X7.here hx rfl (hb hby at_36) rfl ?_
      show Steps p.tables e below (T7.setTop (mkF m 37 #[.val (.int p0), .val (.int p1), .val (.int p2), .val (.int p3), .val (.int p4), .val (.int p5), .val (.int kx), .val (.int dl), .val (.int sm), .unset, .unset, .unset, .unset, .unset, .unset, .unset, .unset, .unset, .unset, .unset, .unset, .unset, .unset, .unset] [(.int p1), (.int (1 : Int32)), (.ref b5), (.ref b5)])) _
      refine st9 _ ?_
      show Steps p.tables e below (T9.setTop (mkF m 38 #[.val (.int p0), .val (.int p1), .val (.int p2), .val (.int p3), .val (.int p4), .val (.int p5), .val (.int kx), .val (.int dl), .val (.int sm), .unset, .unset, .unset, .unset, .unset, .unset, .unset, .unset, .unset, .unset, .unset, .unset, .unset, .unset, .unset] [(.ref b5)])) _
      refine XS.dup X9.here hx rfl (hb hby at_38) rfl rfl ?_
      show Steps p.tables e below (T9.setTop (mkF m 39 #[.val (.int p0), .val (.int p1), .val (.int p2), .val (.int p3), .val (.int p4), .val (.int p5), .val (.int kx), .val (.int dl), .val (.int sm), .unset, .unset, .unset, .unset, .unset, .unset, .unset, .unset, .unset, .unset, .unset, .unset, .unset, .unset, .unset] [(.ref b5), (.ref b5)])) _
      refine XS.iconst X9.here hx rfl (hb hby at_39) ?_
      show Steps p.tables e below (T9.setTop (mkF m 40 #[.val (.int p0), .val (.int p1), .val (.int p2), .val (.int p3), .val (.int p4), .val (.int p5), .val (.int kx), .val (.int dl), .val (.int sm), .unset, .unset, .unset, .unset, .unset, .unset, .unset, .unset, .unset, .unset, .unset, .unset, .unset, .unset, .unset] [(.int (2 : Int32)), (.ref b5), (.ref b5)])) _
      refine XS.iloadN X9.here hx rfl (hb hby at_40) rfl ?_
      show Steps p.tables e below (T9.setTop (mkF m 41 #[.val (.int p0), .val (.int p1), .val (.int p2), .val (.int p3), .val (.int p4), .val (.int p5), .val (.int kx), .val (.int dl), .val (.int sm), .unset, .unset, .unset, .unset, .unset, .unset, .unset, .unset, .unset, .unset, .unset, .unset, .unset, .unset, .unset] [(.int p2), (.int (2 : Int32)), (.ref b5), (.ref b5)])) _
      refine st11 _ ?_
      show Steps p.tables e below (T11.setTop (mkF m 42 #[.val (.int p0), .val (.int p1), .val (.int p2), .val (.int p3), .val (.int p4), .val (.int p5), .val (.int kx), .val (.int dl), .val (.int sm), .unset, .unset, .unset, .unset, .unset, .unset, .unset, .unset, .unset, .unset, .unset, .unset, .unset, .unset, .unset] [(.ref b5)])) _
      refine XS.dup X11.here hx rfl (hb hby at_42) rfl rfl ?_
      show Steps p.tables e below (T11.setTop (mkF m 43 #[.val (.int p0), .val (.int p1), .val (.int p2), .val (.int p3), .val (.int p4), .val (.int p5), .val (.int kx), .val (.int dl), .val (.int sm), .unset, .unset, .unset, .unset, .unset, .unset, .unset, .unset, .unset, .unset, .unset, .unset, .unset, .unset, .unset] [(.ref b5), (.ref b5)])) _
      refine XS.iconst X11.here hx rfl (hb hby at_43) ?_
      show Steps p.tables e below (T11.setTop (mkF m 44 #[.val (.int p0), .val (.int p1), .val (.int p2), .val (.int p3), .val (.int p4), .val (.int p5), .val (.int kx), .val (.int dl), .val (.int sm), .unset, .unset, .unset, .unset, .unset, .unset, .unset, .unset, .unset, .unset, .unset, .unset, .unset, .unset, .unset] [(.int (3 : Int32)), (.ref b5), (.ref b5)])) _
      refine XS.iloadN X11.here hx rfl (hb hby at_44) rfl ?_
      show Steps p.tables e below (T11.setTop (mkF m 45 #[.val (.int p0), .val (.int p1), .val (.int p2), .val (.int p3), .val (.int p4), .val (.int p5), .val (.int kx), .val (.int dl), .val (.int sm), .unset, .unset, .unset, .unset, .unset, .unset, .unset, .unset, .unset, .unset, .unset, .unset, .unset, .unset, .unset] [(.int p3), (.int (3 : Int32)), (.ref b5), (.ref b5)])) _
      refine st13 _ ?_
      show Steps p.tables e below (T13.setTop (mkF m 46 #[.val (.int p0), .val (.int p1), .val (.int p2), .val (.int p3), .val (.int p4), .val (.int p5), .val (.int kx), .val (.int dl), .val (.int sm), .unset, .unset, .unset, .unset, .unset, .unset, .unset, .unset, .unset, .unset, .unset, .unset, .unset, .unset, .unset] [(.ref b5)])) _
      refine XS.dup X13.here hx rfl (hb hby at_46) rfl rfl ?_
      show Steps p.tables e below (T13.setTop (mkF m 47 #[.val (.int p0), .val (.int p1), .val (.int p2), .val (.int p3), .val (.int p4), .val (.int p5), .val (.int kx), .val (.int dl), .val (.int sm), .unset, .unset, .unset, .unset, .unset, .unset, .unset, .unset, .unset, .unset, .unset, .unset, .unset, .unset, .unset] [(.ref b5), (.ref b5)])) _
      refine XS.iconst X13.here hx rfl (hb hby at_47) ?_
      show Steps p.tables e below (T13.setTop (mkF m 48 #[.val (.int p0), .val (.int p1), .val (.int p2), .val (.int p3), .val (.int p4), .val (.int p5), .val (.int kx), .val (.int dl), .val (.int sm), .unset, .unset, .unset, .unset, .unset, .unset, .unset, .unset, .unset, .unset, .unset, .unset, .unset, .unset, .unset] [(.int (4 : Int32)), (.ref b5), (.ref b5)])) _
      refine XS.iload X13.here hx rfl (hb hby at_48) rfl ?_
      show Steps p.tables e below (T13.setTop (mkF m 50 #[.val (.int p0), .val (.int p1), .val (.int p2), .val (.int p3), .val (.int p4), .val (.int p5), .val (.int kx), .val (.int dl), .val (.int sm), .unset, .unset, .unset, .unset, .unset, .unset, .unset, .unset, .unset, .unset, .unset, .unset, .unset, .unset, .unset] [(.int p4), (.int (4 : Int32)), (.ref b5), (.ref b5)])) _
      refine st15 _ ?_
      show Steps p.tables e below (T15.setTop (mkF m 51 #[.val (.int p0), .val (.int p1), .val (.int p2), .val (.int p3), .val (.int p4), .val (.int p5), .val (.int kx), .val (.int dl), .val (.int sm), .unset, .unset, .unset, .unset, .unset, .unset, .unset, .unset, .unset, .unset, .unset, .unset, .unset, .unset, .unset] [(.ref b5)])) _
      refine XS.astore X15.here hx rfl (hb hby at_51) rfl rfl (l' := #[.val (.int p0), .val (.int p1), .val (.int p2), .val (.int p3), .val (.int p4), .val (.int p5), .val (.int kx), .val (.int dl), .val (.int sm), .val (.ref b5), .unset, .unset, .unset, .unset, .unset, .unset, .unset, .unset, .unset, .unset, .unset, .unset, .unset, .unset]) rfl ?_
      show Steps p.tables e below (T15.setTop (mkF m 53 #[.val (.int p0), .val (.int p1), .val (.int p2), .val (.int p3), .val (.int p4), .val (.int p5), .val (.int kx), .val (.int dl), .val (.int sm), .val (.ref b5), .unset, .unset, .unset, .unset, .unset, .unset, .unset, .unset, .unset, .unset, .unset, .unset, .unset, .unset] [])) _
      refine XS.iconst X15.here hx rfl (hb hby at_53) ?_
      show Steps p.tables e below (T15.setTop (mkF m 54 #[.val (.int p0), .val (.int p1), .val (.int p2), .val (.int p3), .val (.int p4), .val (.int p5), .val (.int kx), .val (.int dl), .val (.int sm), .val (.ref b5), .unset, .unset, .unset, .unset, .unset, .unset, .unset, .unset, .unset, .unset, .unset, .unset, .unset, .unset] [(.int (5 : Int32))])) _
      refine st16 _ ?_
      show Steps p.tables e below (T16.setTop (mkF m 56 #[.val (.int p0), .val (.int p1), .val (.int p2), .val (.int p3), .val (.int p4), .val (.int p5), .val (.int kx), .val (.int dl), .val (.int sm), .val (.ref b5), .unset, .unset, .unset, .unset, .unset, .unset, .unset, .unset, .unset, .unset, .unset, .unset, .unset, .unset] [(.ref b16)])) _
      refine XS.dup X16.here hx rfl (hb hby at_56) rfl rfl ?_
      show Steps p.tables e below (T16.setTop (mkF m 57 #[.val (.int p0), .val (.int p1), .val (.int p2), .val (.int p3), .val (.int p4), .val (.int p5), .val (.int kx), .val (.int dl), .val (.int sm), .val (.ref b5), .unset, .unset, .unset, .unset, .unset, .unset, .unset, .unset, .unset, .unset, .unset, .unset, .unset, .unset] [(.ref b16), (.ref b16)])) _
      refine XS.iconst X16.here hx rfl (hb hby at_57) ?_
      show Steps p.tables e below (T16.setTop (mkF m 58 #[.val (.int p0), .val (.int p1), .val (.int p2), .val (.int p3), .val (.int p4), .val (.int p5), .val (.int kx), .val (.int dl), .val (.int sm), .val (.ref b5), .unset, .unset, .unset, .unset, .unset, .unset, .unset, .unset, .unset, .unset, .unset, .unset, .unset, .unset] [(.int (0 : Int32)), (.ref b16), (.ref b16)])) _
      refine XS.iloadN X16.here hx rfl (hb hby at_58) rfl ?_
      show Steps p.tables e below (T16.setTop (mkF m 59 #[.val (.int p0), .val (.int p1), .val (.int p2), .val (.int p3), .val (.int p4), .val (.int p5), .val (.int kx), .val (.int dl), .val (.int sm), .val (.ref b5), .unset, .unset, .unset, .unset, .unset, .unset, .unset, .unset, .unset, .unset, .unset, .unset, .unset, .unset] [(.int p0), (.int (0 : Int32)), (.ref b16), (.ref b16)])) _
      refine st18 _ ?_
      show Steps p.tables e below (T18.setTop (mkF m 60 #[.val (.int p0), .val (.int p1), .val (.int p2), .val (.int p3), .val (.int p4), .val (.int p5), .val (.int kx), .val (.int dl), .val (.int sm), .val (.ref b5), .unset, .unset, .unset, .unset, .unset, .unset, .unset, .unset, .unset, .unset, .unset, .unset, .unset, .unset] [(.ref b16)])) _
      refine XS.dup X18.here hx rfl (hb hby at_60) rfl rfl ?_
      show Steps p.tables e below (T18.setTop (mkF m 61 #[.val (.int p0), .val (.int p1), .val (.int p2), .val (.int p3), .val (.int p4), .val (.int p5), .val (.int kx), .val (.int dl), .val (.int sm), .val (.ref b5), .unset, .unset, .unset, .unset, .unset, .unset, .unset, .unset, .unset, .unset, .unset, .unset, .unset, .unset] [(.ref b16), (.ref b16)])) _
      refine XS.iconst X18.here hx rfl (hb hby at_61) ?_
      show Steps p.tables e below (T18.setTop (mkF m 62 #[.val (.int p0), .val (.int p1), .val (.int p2), .val (.int p3), .val (.int p4), .val (.int p5), .val (.int kx), .val (.int dl), .val (.int sm), .val (.ref b5), .unset, .unset, .unset, .unset, .unset, .unset, .unset, .unset, .unset, .unset, .unset, .unset, .unset, .unset] [(.int (1 : Int32)), (.ref b16), (.ref b16)])) _
      refine XS.iloadN X18.here hx rfl (hb hby at_62) rfl ?_
      show Steps p.tables e below (T18.setTop (mkF m 63 #[.val (.int p0), .val (.int p1), .val (.int p2), .val (.int p3), .val (.int p4), .val (.int p5), .val (.int kx), .val (.int dl), .val (.int sm), .val (.ref b5), .unset, .unset, .unset, .unset, .unset, .unset, .unset, .unset, .unset, .unset, .unset, .unset, .unset, .unset] [(.int p1), (.int (1 : Int32)), (.ref b16), (.ref b16)])) _
      refine st20 _ ?_
      show Steps p.tables e below (T20.setTop (mkF m 64 #[.val (.int p0), .val (.int p1), .val (.int p2), .val (.int p3), .val (.int p4), .val (.int p5), .val (.int kx), .val (.int dl), .val (.int sm), .val (.ref b5), .unset, .unset, .unset, .unset, .unset, .unset, .unset, .unset, .unset, .unset, .unset, .unset, .unset, .unset] [(.ref b16)])) _
      refine XS.dup X20.here hx rfl (hb hby at_64) rfl rfl ?_
      show Steps p.tables e below (T20.setTop (mkF m 65 #[.val (.int p0), .val (.int p1), .val (.int p2), .val (.int p3), .val (.int p4), .val (.int p5), .val (.int kx), .val (.int dl), .val (.int sm), .val (.ref b5), .unset, .unset, .unset, .unset, .unset, .unset, .unset, .unset, .unset, .unset, .unset, .unset, .unset, .unset] [(.ref b16), (.ref b16)])) _
      refine XS.iconst X20.here hx rfl (hb hby at_65) ?_
      show Steps p.tables e below (T20.setTop (mkF m 66 #[.val (.int p0), .val (.int p1), .val (.int p2), .val (.int p3), .val (.int p4), .val (.int p5), .val (.int kx), .val (.int dl), .val (.int sm), .val (.ref b5), .unset, .unset, .unset, .unset, .unset, .unset, .unset, .unset, .unset, .unset, .unset, .unset, .unset, .unset] [(.int (2 : Int32)), (.ref b16), (.ref b16)])) _
      refine XS.iloadN X20.here hx rfl (hb hby at_66) rfl ?_
      show Steps p.tables e below (T20.setTop (mkF m 67 #[.val (.int p0), .val (.int p1), .val (.int p2), .val (.int p3), .val (.int p4), .val (.int p5), .val (.int kx), .val (.int dl), .val (.int sm), .val (.ref b5), .unset, .unset, .unset, .unset, .unset, .unset, .unset, .unset, .unset, .unset, .unset, .unset, .unset, .unset] [(.int p2), (.int (2 : Int32)), (.ref b16), (.ref b16)])) _
      refine st22 _ ?_
      show Steps p.tables e below (T22.setTop (mkF m 68 #[.val (.int p0), .val (.int p1), .val (.int p2), .val (.int p3), .val (.int p4), .val (.int p5), .val (.int kx), .val (.int dl), .val (.int sm), .val (.ref b5), .unset, .unset, .unset, .unset, .unset, .unset, .unset, .unset, .unset, .unset, .unset, .unset, .unset, .unset] [(.ref b16)])) _
      refine XS.dup X22.here hx rfl (hb hby at_68) rfl rfl ?_
      show Steps p.tables e below (T22.setTop (mkF m 69 #[.val (.int p0), .val (.int p1), .val (.int p2), .val (.int p3), .val (.int p4), .val (.int p5), .val (.int kx), .val (.int dl), .val (.int sm), .val (.ref b5), .unset, .unset, .unset, .unset, .unset, .unset, .unset, .unset, .unset, .unset, .unset, .unset, .unset, .unset] [(.ref b16), (.ref b16)])) _
      refine XS.iconst X22.here hx rfl (hb hby at_69) ?_
      show Steps p.tables e below (T22.setTop (mkF m 70 #[.val (.int p0), .val (.int p1), .val (.int p2), .val (.int p3), .val (.int p4), .val (.int p5), .val (.int kx), .val (.int dl), .val (.int sm), .val (.ref b5), .unset, .unset, .unset, .unset, .unset, .unset, .unset, .unset, .unset, .unset, .unset, .unset, .unset, .unset] [(.int (3 : Int32)), (.ref b16), (.ref b16)])) _
      refine XS.iloadN X22.here hx rfl (hb hby at_70) rfl ?_
      show Steps p.tables e below (T22.setTop (mkF m 71 #[.val (.int p0), .val (.int p1), .val (.int p2), .val (.int p3), .val (.int p4), .val (.int p5), .val (.int kx), .val (.int dl), .val (.int sm), .val (.ref b5), .unset, .unset, .unset, .unset, .unset, .unset, .unset, .unset, .unset, .unset, .unset, .unset, .unset, .unset] [(.int p3), (.int (3 : Int32)), (.ref b16), (.ref b16)])) _
      refine st24 _ ?_
      show Steps p.tables e below (T24.setTop (mkF m 72 #[.val (.int p0), .val (.int p1), .val (.int p2), .val (.int p3), .val (.int p4), .val (.int p5), .val (.int kx), .val (.int dl), .val (.int sm), .val (.ref b5), .unset, .unset, .unset, .unset, .unset, .unset, .unset, .unset, .unset, .unset, .unset, .unset, .unset, .unset] [(.ref b16)])) _
      refine XS.dup X24.here hx rfl (hb hby at_72) rfl rfl ?_
      show Steps p.tables e below (T24.setTop (mkF m 73 #[.val (.int p0), .val (.int p1), .val (.int p2), .val (.int p3), .val (.int p4), .val (.int p5), .val (.int kx), .val (.int dl), .val (.int sm), .val (.ref b5), .unset, .unset, .unset, .unset, .unset, .unset, .unset, .unset, .unset, .unset, .unset, .unset, .unset, .unset] [(.ref b16), (.ref b16)])) _
      refine XS.iconst X24.here hx rfl (hb hby at_73) ?_
      show Steps p.tables e below (T24.setTop (mkF m 74 #[.val (.int p0), .val (.int p1), .val (.int p2), .val (.int p3), .val (.int p4), .val (.int p5), .val (.int kx), .val (.int dl), .val (.int sm), .val (.ref b5), .unset, .unset, .unset, .unset, .unset, .unset, .unset, .unset, .unset, .unset, .unset, .unset, .unset, .unset] [(.int (4 : Int32)), (.ref b16), (.ref b16)])) _
      refine XS.iload X24.here hx rfl (hb hby at_74) rfl ?_
      show Steps p.tables e below (T24.setTop (mkF m 76 #[.val (.int p0), .val (.int p1), .val (.int p2), .val (.int p3), .val (.int p4), .val (.int p5), .val (.int kx), .val (.int dl), .val (.int sm), .val (.ref b5), .unset, .unset, .unset, .unset, .unset, .unset, .unset, .unset, .unset, .unset, .unset, .unset, .unset, .unset] [(.int p4), (.int (4 : Int32)), (.ref b16), (.ref b16)])) _
      refine st26 _ ?_
      show Steps p.tables e below (T26.setTop (mkF m 77 #[.val (.int p0), .val (.int p1), .val (.int p2), .val (.int p3), .val (.int p4), .val (.int p5), .val (.int kx), .val (.int dl), .val (.int sm), .val (.ref b5), .unset, .unset, .unset, .unset, .unset, .unset, .unset, .unset, .unset, .unset, .unset, .unset, .unset, .unset] [(.ref b16)])) _
      refine XS.astore X26.here hx rfl (hb hby at_77) rfl rfl (l' := #[.val (.int p0), .val (.int p1), .val (.int p2), .val (.int p3), .val (.int p4), .val (.int p5), .val (.int kx), .val (.int dl), .val (.int sm), .val (.ref b5), .val (.ref b16), .unset, .unset, .unset, .unset, .unset, .unset, .unset, .unset, .unset, .unset, .unset, .unset, .unset]) rfl ?_
      show Steps p.tables e below (T26.setTop (mkF m 79 #[.val (.int p0), .val (.int p1), .val (.int p2), .val (.int p3), .val (.int p4), .val (.int p5), .val (.int kx), .val (.int dl), .val (.int sm), .val (.ref b5), .val (.ref b16), .unset, .unset, .unset, .unset, .unset, .unset, .unset, .unset, .unset, .unset, .unset, .unset, .unset] [])) _
      refine XS.iconst X26.here hx rfl (hb hby at_79) ?_
      show Steps p.tables e below (T26.setTop (mkF m 80 #[.val (.int p0), .val (.int p1), .val (.int p2), .val (.int p3), .val (.int p4), .val (.int p5), .val (.int kx), .val (.int dl), .val (.int sm), .val (.ref b5), .val (.ref b16), .unset, .unset, .unset, .unset, .unset, .unset, .unset, .unset, .unset, .unset, .unset, .unset, .unset] [(.int (5 : Int32))])) _
      refine st28 _ ?_
      show Steps p.tables e below (T28.setTop (mkF m 82 #[.val (.int p0), .val (.int p1), .val (.int p2), .val (.int p3), .val (.int p4), .val (.int p5), .val (.int kx), .val (.int dl), .val (.int sm), .val (.ref b5), .val (.ref b16), .unset, .unset, .unset, .unset, .unset, .unset, .unset, .unset, .unset, .unset, .unset, .unset, .unset] [(.ref b28)])) _
      refine XS.dup X28.here hx rfl (hb hby at_82) rfl rfl ?_
      show Steps p.tables e below (T28.setTop (mkF m 83 #[.val (.int p0), .val (.int p1), .val (.int p2), .val (.int p3), .val (.int p4), .val (.int p5), .val (.int kx), .val (.int dl), .val (.int sm), .val (.ref b5), .val (.ref b16), .unset, .unset, .unset, .unset, .unset, .unset, .unset, .unset, .unset, .unset, .unset, .unset, .unset] [(.ref b28), (.ref b28)])) _
      refine XS.iconst X28.here hx rfl (hb hby at_83) ?_
      show Steps p.tables e below (T28.setTop (mkF m 84 #[.val (.int p0), .val (.int p1), .val (.int p2), .val (.int p3), .val (.int p4), .val (.int p5), .val (.int kx), .val (.int dl), .val (.int sm), .val (.ref b5), .val (.ref b16), .unset, .unset, .unset, .unset, .unset, .unset, .unset, .unset, .unset, .unset, .unset, .unset, .unset] [(.int (0 : Int32)), (.ref b28), (.ref b28)])) _
      refine XS.iloadN X28.here hx rfl (hb hby at_84) rfl ?_
      show Steps p.tables e below (T28.setTop (mkF m 85 #[.val (.int p0), .val (.int p1), .val (.int p2), .val (.int p3), .val (.int p4), .val (.int p5), .val (.int kx), .val (.int dl), .val (.int sm), .val (.ref b5), .val (.ref b16), .unset, .unset, .unset, .unset, .unset, .unset, .unset, .unset, .unset, .unset, .unset, .unset, .unset] [(.int p0), (.int (0 : Int32)), (.ref b28), (.ref b28)])) _
      refine st30 _ ?_
      show Steps p.tables e below (T30.setTop (mkF m 86 #[.val (.int p0), .val (.int p1), .val (.int p2), .val (.int p3), .val (.int p4), .val (.int p5), .val (.int kx), .val (.int dl), .val (.int sm), .val (.ref b5), .val (.ref b16), .unset, .unset, .unset, .unset, .unset, .unset, .unset, .unset, .unset, .unset, .unset, .unset, .unset] [(.ref b28)])) _
      refine XS.dup X30.here hx rfl (hb hby at_86) rfl rfl ?_
      show Steps p.tables e below (T30.setTop (mkF m 87 #[.val (.int p0), .val (.int p1), .val (.int p2), .val (.int p3), .val (.int p4), .val (.int p5), .val (.int kx), .val (.int dl), .val (.int sm), .val (.ref b5), .val (.ref b16), .unset, .unset, .unset, .unset, .unset, .unset, .unset, .unset, .unset, .unset, .unset, .unset, .unset] [(.ref b28), (.ref b28)])) _
      refine XS.iconst X30.here hx rfl (hb hby at_87) ?_
      show Steps p.tables e below (T30.setTop (mkF m 88 #[.val (.int p0), .val (.int p1), .val (.int p2), .val (.int p3), .val (.int p4), .val (.int p5), .val (.int kx), .val (.int dl), .val (.int sm), .val (.ref b5), .val (.ref b16), .unset, .unset, .unset, .unset, .unset, .unset, .unset, .unset, .unset, .unset, .unset, .unset, .unset] [(.int (1 : Int32)), (.ref b28), (.ref b28)])) _
      refine XS.iloadN X30.here hx rfl (hb hby at_88) rfl ?_
      show Steps p.tables e below (T30.setTop (mkF m 89 #[.val (.int p0), .val (.int p1), .val (.int p2), .val (.int p3), .val (.int p4), .val (.int p5), .val (.int kx), .val (.int dl), .val (.int sm), .val (.ref b5), .val (.ref b16), .unset, .unset, .unset, .unset, .unset, .unset, .unset, .unset, .unset, .unset, .unset, .unset, .unset] [(.int p1), (.int (1 : Int32)), (.ref b28), (.ref b28)])) _
      refine st32 _ ?_
      show Steps p.tables e below (T32.setTop (mkF m 90 #[.val (.int p0), .val (.int p1), .val (.int p2), .val (.int p3), .val (.int p4), .val (.int p5), .val (.int kx), .val (.int dl), .val (.int sm), .val (.ref b5), .val (.ref b16), .unset, .unset, .unset, .unset, .unset, .unset, .unset, .unset, .unset, .unset, .unset, .unset, .unset] [(.ref b28)])) _
      refine XS.dup X32.here hx rfl (hb hby at_90) rfl rfl ?_
      show Steps p.tables e below (T32.setTop (mkF m 91 #[.val (.int p0), .val (.int p1), .val (.int p2), .val (.int p3), .val (.int p4), .val (.int p5), .val (.int kx), .val (.int dl), .val (.int sm), .val (.ref b5), .val (.ref b16), .unset, .unset, .unset, .unset, .unset, .unset, .unset, .unset, .unset, .unset, .unset, .unset, .unset] [(.ref b28), (.ref b28)])) _
      refine XS.iconst X32.here hx rfl (hb hby at_91) ?_
      show Steps p.tables e below (T32.setTop (mkF m 92 #[.val (.int p0), .val (.int p1), .val (.int p2), .val (.int p3), .val (.int p4), .val (.int p5), .val (.int kx), .val (.int dl), .val (.int sm), .val (.ref b5), .val (.ref b16), .unset, .unset, .unset, .unset, .unset, .unset, .unset, .unset, .unset, .unset, .unset, .unset, .unset] [(.int (2 : Int32)), (.ref b28), (.ref b28)])) _
      refine XS.iloadN X32.here hx rfl (hb hby at_92) rfl ?_
      show Steps p.tables e below (T32.setTop (mkF m 93 #[.val (.int p0), .val (.int p1), .val (.int p2), .val (.int p3), .val (.int p4), .val (.int p5), .val (.int kx), .val (.int dl), .val (.int sm), .val (.ref b5), .val (.ref b16), .unset, .unset, .unset, .unset, .unset, .unset, .unset, .unset, .unset, .unset, .unset, .unset, .unset] [(.int p2), (.int (2 : Int32)), (.ref b28), (.ref b28)])) _
      refine st34 _ ?_
      show Steps p.tables e below (T34.setTop (mkF m 94 #[.val (.int p0), .val (.int p1), .val (.int p2), .val (.int p3), .val (.int p4), .val (.int p5), .val (.int kx), .val (.int dl), .val (.int sm), .val (.ref b5), .val (.ref b16), .unset, .unset, .unset, .unset, .unset, .unset, .unset, .unset, .unset, .unset, .unset, .unset, .unset] [(.ref b28)])) _
      refine XS.dup X34.here hx rfl (hb hby at_94) rfl rfl ?_
      show Steps p.tables e below (T34.setTop (mkF m 95 #[.val (.int p0), .val (.int p1), .val (.int p2), .val (.int p3), .val (.int p4), .val (.int p5), .val (.int kx), .val (.int dl), .val (.int sm), .val (.ref b5), .val (.ref b16), .unset, .unset, .unset, .unset, .unset, .unset, .unset, .unset, .unset, .unset, .unset, .unset, .unset] [(.ref b28), (.ref b28)])) _
      refine XS.iconst X34.here hx rfl (hb hby at_95) ?_
      show Steps p.tables e below (T34.setTop (mkF m 96 #[.val (.int p0), .val (.int p1), .val (.int p2), .val (.int p3), .val (.int p4), .val (.int p5), .val (.int kx), .val (.int dl), .val (.int sm), .val (.ref b5), .val (.ref b16), .unset, .unset, .unset, .unset, .unset, .unset, .unset, .unset, .unset, .unset, .unset, .unset, .unset] [(.int (3 : Int32)), (.ref b28), (.ref b28)])) _
      refine XS.iloadN X34.here hx rfl (hb hby at_96) rfl ?_
      show Steps p.tables e below (T34.setTop (mkF m 97 #[.val (.int p0), .val (.int p1), .val (.int p2), .val (.int p3), .val (.int p4), .val (.int p5), .val (.int kx), .val (.int dl), .val (.int sm), .val (.ref b5), .val (.ref b16), .unset, .unset, .unset, .unset, .unset, .unset, .unset, .unset, .unset, .unset, .unset, .unset, .unset] [(.int p3), (.int (3 : Int32)), (.ref b28), (.ref b28)])) _
      refine st36 _ ?_
      show Steps p.tables e below (T36.setTop (mkF m 98 #[.val (.int p0), .val (.int p1), .val (.int p2), .val (.int p3), .val (.int p4), .val (.int p5), .val (.int kx), .val (.int dl), .val (.int sm), .val (.ref b5), .val (.ref b16), .unset, .unset, .unset, .unset, .unset, .unset, .unset, .unset, .unset, .unset, .unset, .unset, .unset] [(.ref b28)])) _
      refine XS.dup X36.here hx rfl (hb hby at_98) rfl rfl ?_
      show Steps p.tables e below (T36.setTop (mkF m 99 #[.val (.int p0), .val (.int p1), .val (.int p2), .val (.int p3), .val (.int p4), .val (.int p5), .val (.int kx), .val (.int dl), .val (.int sm), .val (.ref b5), .val (.ref b16), .unset, .unset, .unset, .unset, .unset, .unset, .unset, .unset, .unset, .unset, .unset, .unset, .unset] [(.ref b28), (.ref b28)])) _
      refine XS.iconst X36.here hx rfl (hb hby at_99) ?_
      show Steps p.tables e below (T36.setTop (mkF m 100 #[.val (.int p0), .val (.int p1), .val (.int p2), .val (.int p3), .val (.int p4), .val (.int p5), .val (.int kx), .val (.int dl), .val (.int sm), .val (.ref b5), .val (.ref b16), .unset, .unset, .unset, .unset, .unset, .unset, .unset, .unset, .unset, .unset, .unset, .unset, .unset] [(.int (4 : Int32)), (.ref b28), (.ref b28)])) _
      refine XS.iload X36.here hx rfl (hb hby at_100) rfl ?_
      show Steps p.tables e below (T36.setTop (mkF m 102 #[.val (.int p0), .val (.int p1), .val (.int p2), .val (.int p3), .val (.int p4), .val (.int p5), .val (.int kx), .val (.int dl), .val (.int sm), .val (.ref b5), .val (.ref b16), .unset, .unset, .unset, .unset, .unset, .unset, .unset, .unset, .unset, .unset, .unset, .unset, .unset] [(.int p4), (.int (4 : Int32)), (.ref b28), (.ref b28)])) _
      refine st38 _ ?_
      show Steps p.tables e below (T38.setTop (mkF m 103 #[.val (.int p0), .val (.int p1), .val (.int p2), .val (.int p3), .val (.int p4), .val (.int p5), .val (.int kx), .val (.int dl), .val (.int sm), .val (.ref b5), .val (.ref b16), .unset, .unset, .unset, .unset, .unset, .unset, .unset, .unset, .unset, .unset, .unset, .unset, .unset] [(.ref b28)])) _
      refine XS.astore X38.here hx rfl (hb hby at_103) rfl rfl (l' := #[.val (.int p0), .val (.int p1), .val (.int p2), .val (.int p3), .val (.int p4), .val (.int p5), .val (.int kx), .val (.int dl), .val (.int sm), .val (.ref b5), .val (.ref b16), .val (.ref b28), .unset, .unset, .unset, .unset, .unset, .unset, .unset, .unset, .unset, .unset, .unset, .unset]) rfl ?_
      show Steps p.tables e below (T38.setTop (mkF m 105 #[.val (.int p0), .val (.int p1), .val (.int p2), .val (.int p3), .val (.int p4), .val (.int p5), .val (.int kx), .val (.int dl), .val (.int sm), .val (.ref b5), .val (.ref b16), .val (.ref b28), .unset, .unset, .unset, .unset, .unset, .unset, .unset, .unset, .unset, .unset, .unset, .unset] [])) _
      refine XS.aload X38.here hx rfl (hb hby at_105) rfl rfl ?_
      show Steps p.tables e below (T38.setTop (mkF m 107 #[.val (.int p0), .val (.int p1), .val (.int p2), .val (.int p3), .val (.int p4), .val (.int p5), .val (.int kx), .val (.int dl), .val (.int sm), .val (.ref b5), .val (.ref b16), .val (.ref b28), .unset, .unset, .unset, .unset, .unset, .unset, .unset, .unset, .unset, .unset, .unset, .unset] [(.ref b16)])) _
      refine XS.iload X38.here hx rfl (hb hby at_107) rfl ?_
      show Steps p.tables e below (T38.setTop (mkF m 109 #[.val (.int p0), .val (.int p1), .val (.int p2), .val (.int p3), .val (.int p4), .val (.int p5), .val (.int kx), .val (.int dl), .val (.int sm), .val (.ref b5), .val (.ref b16), .val (.ref b28), .unset, .unset, .unset, .unset, .unset, .unset, .unset, .unset, .unset, .unset, .unset, .unset] [(.int kx), (.ref b16)])) _
      refine XS.aload X38.here hx rfl (hb hby at_109) rfl rfl ?_
      show Steps p.tables e below (T38.setTop (mkF m 111 #[.val (.int p0), .val (.int p1), .val (.int p2), .val (.int p3), .val (.int p4), .val (.int p5), .val (.int kx), .val (.int dl), .val (.int sm), .val (.ref b5), .val (.ref b16), .val (.ref b28), .unset, .unset, .unset, .unset, .unset, .unset, .unset, .unset, .unset, .unset, .unset, .unset] [(.ref b16), (.int kx), (.ref b16)])) _
      refine XS.iload X38.here hx rfl (hb hby at_111) rfl ?_
      show Steps p.tables e below (T38.setTop (mkF m 113 #[.val (.int p0), .val (.int p1), .val (.int p2), .val (.int p3), .val (.int p4), .val (.int p5), .val (.int kx), .val (.int dl), .val (.int sm), .val (.ref b5), .val (.ref b16), .val (.ref b28), .unset, .unset, .unset, .unset, .unset, .unset, .unset, .unset, .unset, .unset, .unset, .unset] [(.int kx), (.ref b16), (.int kx), (.ref b16)])) _
      refine X38.iaload hx (j := kx) (v := (.int ((upd (upd (upd (upd (upd (fun _ => (0 : Int32)) (0 : Int32) p0) (1 : Int32) p1) (2 : Int32) p2) (3 : Int32) p3) (4 : Int32) p4) kx))) (by rw [e38]; exact Ar40.1) (State.isArrayOf_alike hZ.alike Ar40.2.1) Ar40.2.2 (inb_of S40 ib40) (Hh40 _ ib40.1 ib40.2) (g := (mkF m 113 #[.val (.int p0), .val (.int p1), .val (.int p2), .val (.int p3), .val (.int p4), .val (.int p5), .val (.int kx), .val (.int dl), .val (.int sm), .val (.ref b5), .val (.ref b16), .val (.ref b28), .unset, .unset, .unset, .unset, .unset, .unset, .unset, .unset, .unset, .unset, .unset, .unset] [(.int kx), (.ref b16), (.int kx), (.ref b16)])) rfl rfl (hb hby at_113) _ ?_
      show Steps p.tables e below (T38.setTop (mkF m 114 #[.val (.int p0), .val (.int p1), .val (.int p2), .val (.int p3), .val (.int p4), .val (.int p5), .val (.int kx), .val (.int dl), .val (.int sm), .val (.ref b5), .val (.ref b16), .val (.ref b28), .unset, .unset, .unset, .unset, .unset, .unset, .unset, .unset, .unset, .unset, .unset, .unset] [(.int ((upd (upd (upd (upd (upd (fun _ => (0 : Int32)) (0 : Int32) p0) (1 : Int32) p1) (2 : Int32) p2) (3 : Int32) p3) (4 : Int32) p4) kx)), (.int kx), (.ref b16)])) _
      refine XS.iload X38.here hx rfl (hb hby at_114) rfl ?_
      show Steps p.tables e below (T38.setTop (mkF m 116 #[.val (.int p0), .val (.int p1), .val (.int p2), .val (.int p3), .val (.int p4), .val (.int p5), .val (.int kx), .val (.int dl), .val (.int sm), .val (.ref b5), .val (.ref b16), .val (.ref b28), .unset, .unset, .unset, .unset, .unset, .unset, .unset, .unset, .unset, .unset, .unset, .unset] [(.int dl), (.int ((upd (upd (upd (upd (upd (fun _ => (0 : Int32)) (0 : Int32) p0) (1 : Int32) p1) (2 : Int32) p2) (3 : Int32) p3) (4 : Int32) p4) kx)), (.int kx), (.ref b16)])) _
      refine XS.iadd X38.here hx rfl (hb hby at_116) rfl ?_
      show Steps p.tables e below (T38.setTop (mkF m 117 #[.val (.int p0), .val (.int p1), .val (.int p2), .val (.int p3), .val (.int p4), .val (.int p5), .val (.int kx), .val (.int dl), .val (.int sm), .val (.ref b5), .val (.ref b16), .val (.ref b28), .unset, .unset, .unset, .unset, .unset, .unset, .unset, .unset, .unset, .unset, .unset, .unset] [(.int (((upd (upd (upd (upd (upd (fun _ => (0 : Int32)) (0 : Int32) p0) (1 : Int32) p1) (2 : Int32) p2) (3 : Int32) p3) (4 : Int32) p4) kx) + dl)), (.int kx), (.ref b16)])) _
      refine st42 _ ?_
      show Steps p.tables e below (T42.setTop (mkF m 118 #[.val (.int p0), .val (.int p1), .val (.int p2), .val (.int p3), .val (.int p4), .val (.int p5), .val (.int kx), .val (.int dl), .val (.int sm), .val (.ref b5), .val (.ref b16), .val (.ref b28), .unset, .unset, .unset, .unset, .unset, .unset, .unset, .unset, .unset, .unset, .unset, .unset] [])) _
      refine XS.aload X42.here hx rfl (hb hby at_118) rfl rfl ?_
      show Steps p.tables e below (T42.setTop (mkF m 120 #[.val (.int p0), .val (.int p1), .val (.int p2), .val (.int p3), .val (.int p4), .val (.int p5), .val (.int kx), .val (.int dl), .val (.int sm), .val (.ref b5), .val (.ref b16), .val (.ref b28), .unset, .unset, .unset, .unset, .unset, .unset, .unset, .unset, .unset, .unset, .unset, .unset] [(.ref b28)])) _
      refine XS.iload X42.here hx rfl (hb hby at_120) rfl ?_
      show Steps p.tables e below (T42.setTop (mkF m 122 #[.val (.int p0), .val (.int p1), .val (.int p2), .val (.int p3), .val (.int p4), .val (.int p5), .val (.int kx), .val (.int dl), .val (.int sm), .val (.ref b5), .val (.ref b16), .val (.ref b28), .unset, .unset, .unset, .unset, .unset, .unset, .unset, .unset, .unset, .unset, .unset, .unset] [(.int kx), (.ref b28)])) _
      refine XS.aload X42.here hx rfl (hb hby at_122) rfl rfl ?_
      show Steps p.tables e below (T42.setTop (mkF m 124 #[.val (.int p0), .val (.int p1), .val (.int p2), .val (.int p3), .val (.int p4), .val (.int p5), .val (.int kx), .val (.int dl), .val (.int sm), .val (.ref b5), .val (.ref b16), .val (.ref b28), .unset, .unset, .unset, .unset, .unset, .unset, .unset, .unset, .unset, .unset, .unset, .unset] [(.ref b28), (.int kx), (.ref b28)])) _
      refine XS.iload X42.here hx rfl (hb hby at_124) rfl ?_
      show Steps p.tables e below (T42.setTop (mkF m 126 #[.val (.int p0), .val (.int p1), .val (.int p2), .val (.int p3), .val (.int p4), .val (.int p5), .val (.int kx), .val (.int dl), .val (.int sm), .val (.ref b5), .val (.ref b16), .val (.ref b28), .unset, .unset, .unset, .unset, .unset, .unset, .unset, .unset, .unset, .unset, .unset, .unset] [(.int kx), (.ref b28), (.int kx), (.ref b28)])) _
      refine X42.iaload hx (j := kx) (v := (.int ((upd (upd (upd (upd (upd (fun _ => (0 : Int32)) (0 : Int32) p0) (1 : Int32) p1) (2 : Int32) p2) (3 : Int32) p3) (4 : Int32) p4) kx))) (by rw [e42]; exact Ar44.1) (State.isArrayOf_alike hZ.alike Ar44.2.1) Ar44.2.2 (inb_of S44 ib44) (Hh44 _ ib44.1 ib44.2) (g := (mkF m 126 #[.val (.int p0), .val (.int p1), .val (.int p2), .val (.int p3), .val (.int p4), .val (.int p5), .val (.int kx), .val (.int dl), .val (.int sm), .val (.ref b5), .val (.ref b16), .val (.ref b28), .unset, .unset, .unset, .unset, .unset, .unset, .unset, .unset, .unset, .unset, .unset, .unset] [(.int kx), (.ref b28), (.int kx), (.ref b28)])) rfl rfl (hb hby at_126) _ ?_
      show Steps p.tables e below (T42.setTop (mkF m 127 #[.val (.int p0), .val (.int p1), .val (.int p2), .val (.int p3), .val (.int p4), .val (.int p5), .val (.int kx), .val (.int dl), .val (.int sm), .val (.ref b5), .val (.ref b16), .val (.ref b28), .unset, .unset, .unset, .unset, .unset, .unset, .unset, .unset, .unset, .unset, .unset, .unset] [(.int ((upd (upd (upd (upd (upd (fun _ => (0 : Int32)) (0 : Int32) p0) (1 : Int32) p1) (2 : Int32) p2) (3 : Int32) p3) (4 : Int32) p4) kx)), (.int kx), (.ref b28)])) _
      refine XS.iload X42.here hx rfl (hb hby at_127) rfl ?_
      show Steps p.tables e below (T42.setTop (mkF m 129 #[.val (.int p0), .val (.int p1), .val (.int p2), .val (.int p3), .val (.int p4), .val (.int p5), .val (.int kx), .val (.int dl), .val (.int sm), .val (.ref b5), .val (.ref b16), .val (.ref b28), .unset, .unset, .unset, .unset, .unset, .unset, .unset, .unset, .unset, .unset, .unset, .unset] [(.int dl), (.int ((upd (upd (upd (upd (upd (fun _ => (0 : Int32)) (0 : Int32) p0) (1 : Int32) p1) (2 : Int32) p2) (3 : Int32) p3) (4 : Int32) p4) kx)), (.int kx), (.ref b28)])) _
      refine XS.isub X42.here hx rfl (hb hby at_129) rfl ?_
      show Steps p.tables e below (T42.setTop (mkF m 130 #[.val (.int p0), .val (.int p1), .val (.int p2), .val (.int p3), .val (.int p4), .val (.int p5), .val (.int kx), .val (.int dl), .val (.int sm), .val (.ref b5), .val (.ref b16), .val (.ref b28), .unset, .unset, .unset, .unset, .unset, .unset, .unset, .unset, .unset, .unset, .unset, .unset] [(.int (((upd (upd (upd (upd (upd (fun _ => (0 : Int32)) (0 : Int32) p0) (1 : Int32) p1) (2 : Int32) p2) (3 : Int32) p3) (4 : Int32) p4) kx) - dl)), (.int kx), (.ref b28)])) _
      refine st46 _ ?_
      exact kt)
  obtain ⟨xe2, hxe2, pre51⟩ : ∃ xe2 : Int32, xe2 = (if sm = (0 : Int32) then (1 : Int32) else 0) ∧ ∀ t, Steps p.tables e below (T46.setTop (mkF m 141 #[.val (.int p0), .val (.int p1), .val (.int p2), .val (.int p3), .val (.int p4), .val (.int p5), .val (.int kx), .val (.int dl), .val (.int sm), .val (.ref b5), .val (.ref b16), .val (.ref b28), .unset, .unset, .unset, .unset, .unset, .unset, .unset, .unset, .unset, .unset, .unset, .unset] [(.int xe2)])) t → Steps p.tables e below (s₁.setTop (entryFrame m #[(.int p0), (.int p1), (.int p2), (.int p3), (.int p4), (.int p5)] maxLocals)) t := by
    have pre50 : ∀ t, Steps p.tables e below (T46.setTop (mkF m 133 #[.val (.int p0), .val (.int p1), .val (.int p2), .val (.int p3), .val (.int p4), .val (.int p5), .val (.int kx), .val (.int dl), .val (.int sm), .val (.ref b5), .val (.ref b16), .val (.ref b28), .unset, .unset, .unset, .unset, .unset, .unset, .unset, .unset, .unset, .unset, .unset, .unset] [(.int sm)])) t → Steps p.tables e below (s₁.setTop (entryFrame m #[(.int p0), (.int p1), (.int p2), (.int p3), (.int p4), (.int p5)] maxLocals)) t := fun t kt => pre49 t (by
        show Steps p.tables e below (T46.setTop (mkF m 131 #[.val (.int p0), .val (.int p1), .val (.int p2), .val (.int p3), .val (.int p4), .val (.int p5), .val (.int kx), .val (.int dl), .val (.int sm), .val (.ref b5), .val (.ref b16), .val (.ref b28), .unset, .unset, .unset, .unset, .unset, .unset, .unset, .unset, .unset, .unset, .unset, .unset] [])) _
        refine XS.iload Xx47.here hx rfl (hb hby at_131) rfl ?_
        exact kt)
    by_cases hc133 : sm = (0 : Int32)
    · exact ⟨(1 : Int32), (by rw [if_pos hc133]), fun t kt => pre50 t (by
          show Steps p.tables e below (T46.setTop (mkF m 133 #[.val (.int p0), .val (.int p1), .val (.int p2), .val (.int p3), .val (.int p4), .val (.int p5), .val (.int kx), .val (.int dl), .val (.int sm), .val (.ref b5), .val (.ref b16), .val (.ref b28), .unset, .unset, .unset, .unset, .unset, .unset, .unset, .unset, .unset, .unset, .unset, .unset] [(.int sm)])) _
          refine XS.ifYes Xx47.here hx rfl (pc0 := 133) (pc' := 140) rfl (hb hby at_133) rfl ((if0 _ _).trans (teq (show sm = (0 : Int32) from hc133)).1) (by decide) (by decide) ?_
          show Steps p.tables e below (T46.setTop (mkF m 140 #[.val (.int p0), .val (.int p1), .val (.int p2), .val (.int p3), .val (.int p4), .val (.int p5), .val (.int kx), .val (.int dl), .val (.int sm), .val (.ref b5), .val (.ref b16), .val (.ref b28), .unset, .unset, .unset, .unset, .unset, .unset, .unset, .unset, .unset, .unset, .unset, .unset] [])) _
          refine XS.iconst Xx47.here hx rfl (hb hby at_140) ?_
          exact kt)⟩
    · exact ⟨(0 : Int32), (by rw [if_neg hc133]), fun t kt => pre50 t (by
          show Steps p.tables e below (T46.setTop (mkF m 133 #[.val (.int p0), .val (.int p1), .val (.int p2), .val (.int p3), .val (.int p4), .val (.int p5), .val (.int kx), .val (.int dl), .val (.int sm), .val (.ref b5), .val (.ref b16), .val (.ref b28), .unset, .unset, .unset, .unset, .unset, .unset, .unset, .unset, .unset, .unset, .unset, .unset] [(.int sm)])) _
          refine XS.ifNo Xx47.here hx rfl (hb hby at_133) rfl ((if0 _ _).trans (feq (show ¬ (sm = (0 : Int32)) from hc133)).1) ?_
          show Steps p.tables e below (T46.setTop (mkF m 136 #[.val (.int p0), .val (.int p1), .val (.int p2), .val (.int p3), .val (.int p4), .val (.int p5), .val (.int kx), .val (.int dl), .val (.int sm), .val (.ref b5), .val (.ref b16), .val (.ref b28), .unset, .unset, .unset, .unset, .unset, .unset, .unset, .unset, .unset, .unset, .unset, .unset] [])) _
          refine XS.iconst Xx47.here hx rfl (hb hby at_136) ?_
          show Steps p.tables e below (T46.setTop (mkF m 137 #[.val (.int p0), .val (.int p1), .val (.int p2), .val (.int p3), .val (.int p4), .val (.int p5), .val (.int kx), .val (.int dl), .val (.int sm), .val (.ref b5), .val (.ref b16), .val (.ref b28), .unset, .unset, .unset, .unset, .unset, .unset, .unset, .unset, .unset, .unset, .unset, .unset] [(.int (0 : Int32))])) _
          refine XS.goto Xx47.here hx rfl (pc0 := 137) (pc' := 141) rfl (hb hby at_137) (by decide) (by decide) ?_
          exact kt)⟩
  have pre52 : ∀ t, Steps p.tables e below (T46.setTop (mkF m 143 #[.val (.int p0), .val (.int p1), .val (.int p2), .val (.int p3), .val (.int p4), .val (.int p5), .val (.int kx), .val (.int dl), .val (.int sm), .val (.ref b5), .val (.ref b16), .val (.ref b28), .val (.int xe2), .unset, .unset, .unset, .unset, .unset, .unset, .unset, .unset, .unset, .unset, .unset] [])) t → Steps p.tables e below (s₁.setTop (entryFrame m #[(.int p0), (.int p1), (.int p2), (.int p3), (.int p4), (.int p5)] maxLocals)) t := fun t kt => pre51 t (by
      show Steps p.tables e below (T46.setTop (mkF m 141 #[.val (.int p0), .val (.int p1), .val (.int p2), .val (.int p3), .val (.int p4), .val (.int p5), .val (.int kx), .val (.int dl), .val (.int sm), .val (.ref b5), .val (.ref b16), .val (.ref b28), .unset, .unset, .unset, .unset, .unset, .unset, .unset, .unset, .unset, .unset, .unset, .unset] [(.int xe2)])) _
      refine XS.istore Xx47.here hx rfl (hb hby at_141) rfl (l' := #[.val (.int p0), .val (.int p1), .val (.int p2), .val (.int p3), .val (.int p4), .val (.int p5), .val (.int kx), .val (.int dl), .val (.int sm), .val (.ref b5), .val (.ref b16), .val (.ref b28), .val (.int xe2), .unset, .unset, .unset, .unset, .unset, .unset, .unset, .unset, .unset, .unset, .unset]) rfl ?_
      exact kt)
  obtain ⟨xe3b, hxe3b, pre54⟩ : ∃ xe3b : Int32, xe3b = (if sm = (0 : Int32) then (-1 : Int32) else 0) ∧ ∀ t, Steps p.tables e below (T46.setTop (mkF m 153 #[.val (.int p0), .val (.int p1), .val (.int p2), .val (.int p3), .val (.int p4), .val (.int p5), .val (.int kx), .val (.int dl), .val (.int sm), .val (.ref b5), .val (.ref b16), .val (.ref b28), .val (.int xe2), .unset, .unset, .unset, .unset, .unset, .unset, .unset, .unset, .unset, .unset, .unset] [(.int xe3b)])) t → Steps p.tables e below (s₁.setTop (entryFrame m #[(.int p0), (.int p1), (.int p2), (.int p3), (.int p4), (.int p5)] maxLocals)) t := by
    have pre53 : ∀ t, Steps p.tables e below (T46.setTop (mkF m 145 #[.val (.int p0), .val (.int p1), .val (.int p2), .val (.int p3), .val (.int p4), .val (.int p5), .val (.int kx), .val (.int dl), .val (.int sm), .val (.ref b5), .val (.ref b16), .val (.ref b28), .val (.int xe2), .unset, .unset, .unset, .unset, .unset, .unset, .unset, .unset, .unset, .unset, .unset] [(.int sm)])) t → Steps p.tables e below (s₁.setTop (entryFrame m #[(.int p0), (.int p1), (.int p2), (.int p3), (.int p4), (.int p5)] maxLocals)) t := fun t kt => pre52 t (by
        show Steps p.tables e below (T46.setTop (mkF m 143 #[.val (.int p0), .val (.int p1), .val (.int p2), .val (.int p3), .val (.int p4), .val (.int p5), .val (.int kx), .val (.int dl), .val (.int sm), .val (.ref b5), .val (.ref b16), .val (.ref b28), .val (.int xe2), .unset, .unset, .unset, .unset, .unset, .unset, .unset, .unset, .unset, .unset, .unset] [])) _
        refine XS.iload Xx47.here hx rfl (hb hby at_143) rfl ?_
        exact kt)
    by_cases hc145 : sm = (0 : Int32)
    · exact ⟨(-1 : Int32), (by rw [if_pos hc145]), fun t kt => pre53 t (by
          show Steps p.tables e below (T46.setTop (mkF m 145 #[.val (.int p0), .val (.int p1), .val (.int p2), .val (.int p3), .val (.int p4), .val (.int p5), .val (.int kx), .val (.int dl), .val (.int sm), .val (.ref b5), .val (.ref b16), .val (.ref b28), .val (.int xe2), .unset, .unset, .unset, .unset, .unset, .unset, .unset, .unset, .unset, .unset, .unset] [(.int sm)])) _
          refine XS.ifYes Xx47.here hx rfl (pc0 := 145) (pc' := 152) rfl (hb hby at_145) rfl ((if0 _ _).trans (teq (show sm = (0 : Int32) from hc145)).1) (by decide) (by decide) ?_
          show Steps p.tables e below (T46.setTop (mkF m 152 #[.val (.int p0), .val (.int p1), .val (.int p2), .val (.int p3), .val (.int p4), .val (.int p5), .val (.int kx), .val (.int dl), .val (.int sm), .val (.ref b5), .val (.ref b16), .val (.ref b28), .val (.int xe2), .unset, .unset, .unset, .unset, .unset, .unset, .unset, .unset, .unset, .unset, .unset] [])) _
          refine XS.iconst Xx47.here hx rfl (hb hby at_152) ?_
          exact kt)⟩
    · exact ⟨(0 : Int32), (by rw [if_neg hc145]), fun t kt => pre53 t (by
          show Steps p.tables e below (T46.setTop (mkF m 145 #[.val (.int p0), .val (.int p1), .val (.int p2), .val (.int p3), .val (.int p4), .val (.int p5), .val (.int kx), .val (.int dl), .val (.int sm), .val (.ref b5), .val (.ref b16), .val (.ref b28), .val (.int xe2), .unset, .unset, .unset, .unset, .unset, .unset, .unset, .unset, .unset, .unset, .unset] [(.int sm)])) _
          refine XS.ifNo Xx47.here hx rfl (hb hby at_145) rfl ((if0 _ _).trans (feq (show ¬ (sm = (0 : Int32)) from hc145)).1) ?_
          show Steps p.tables e below (T46.setTop (mkF m 148 #[.val (.int p0), .val (.int p1), .val (.int p2), .val (.int p3), .val (.int p4), .val (.int p5), .val (.int kx), .val (.int dl), .val (.int sm), .val (.ref b5), .val (.ref b16), .val (.ref b28), .val (.int xe2), .unset, .unset, .unset, .unset, .unset, .unset, .unset, .unset, .unset, .unset, .unset] [])) _
          refine XS.iconst Xx47.here hx rfl (hb hby at_148) ?_
          show Steps p.tables e below (T46.setTop (mkF m 149 #[.val (.int p0), .val (.int p1), .val (.int p2), .val (.int p3), .val (.int p4), .val (.int p5), .val (.int kx), .val (.int dl), .val (.int sm), .val (.ref b5), .val (.ref b16), .val (.ref b28), .val (.int xe2), .unset, .unset, .unset, .unset, .unset, .unset, .unset, .unset, .unset, .unset, .unset] [(.int (0 : Int32))])) _
          refine XS.goto Xx47.here hx rfl (pc0 := 149) (pc' := 153) rfl (hb hby at_149) (by decide) (by decide) ?_
          exact kt)⟩
  have pre55 : ∀ t, Steps p.tables e below (T46.setTop (mkF m 155 #[.val (.int p0), .val (.int p1), .val (.int p2), .val (.int p3), .val (.int p4), .val (.int p5), .val (.int kx), .val (.int dl), .val (.int sm), .val (.ref b5), .val (.ref b16), .val (.ref b28), .val (.int xe2), .val (.int xe3b), .unset, .unset, .unset, .unset, .unset, .unset, .unset, .unset, .unset, .unset] [])) t → Steps p.tables e below (s₁.setTop (entryFrame m #[(.int p0), (.int p1), (.int p2), (.int p3), (.int p4), (.int p5)] maxLocals)) t := fun t kt => pre54 t (by
      show Steps p.tables e below (T46.setTop (mkF m 153 #[.val (.int p0), .val (.int p1), .val (.int p2), .val (.int p3), .val (.int p4), .val (.int p5), .val (.int kx), .val (.int dl), .val (.int sm), .val (.ref b5), .val (.ref b16), .val (.ref b28), .val (.int xe2), .unset, .unset, .unset, .unset, .unset, .unset, .unset, .unset, .unset, .unset, .unset] [(.int xe3b)])) _
      refine XS.istore Xx47.here hx rfl (hb hby at_153) rfl (l' := #[.val (.int p0), .val (.int p1), .val (.int p2), .val (.int p3), .val (.int p4), .val (.int p5), .val (.int kx), .val (.int dl), .val (.int sm), .val (.ref b5), .val (.ref b16), .val (.ref b28), .val (.int xe2), .val (.int xe3b), .unset, .unset, .unset, .unset, .unset, .unset, .unset, .unset, .unset, .unset]) rfl ?_
      exact kt)
  obtain ⟨xe3, hxe3, pre57⟩ : ∃ xe3 : Int32, xe3 = (if sm = (0 : Int32) then (2 : Int32) else 0) ∧ ∀ t, Steps p.tables e below (T46.setTop (mkF m 165 #[.val (.int p0), .val (.int p1), .val (.int p2), .val (.int p3), .val (.int p4), .val (.int p5), .val (.int kx), .val (.int dl), .val (.int sm), .val (.ref b5), .val (.ref b16), .val (.ref b28), .val (.int xe2), .val (.int xe3b), .unset, .unset, .unset, .unset, .unset, .unset, .unset, .unset, .unset, .unset] [(.int xe3)])) t → Steps p.tables e below (s₁.setTop (entryFrame m #[(.int p0), (.int p1), (.int p2), (.int p3), (.int p4), (.int p5)] maxLocals)) t := by
    have pre56 : ∀ t, Steps p.tables e below (T46.setTop (mkF m 157 #[.val (.int p0), .val (.int p1), .val (.int p2), .val (.int p3), .val (.int p4), .val (.int p5), .val (.int kx), .val (.int dl), .val (.int sm), .val (.ref b5), .val (.ref b16), .val (.ref b28), .val (.int xe2), .val (.int xe3b), .unset, .unset, .unset, .unset, .unset, .unset, .unset, .unset, .unset, .unset] [(.int sm)])) t → Steps p.tables e below (s₁.setTop (entryFrame m #[(.int p0), (.int p1), (.int p2), (.int p3), (.int p4), (.int p5)] maxLocals)) t := fun t kt => pre55 t (by
        show Steps p.tables e below (T46.setTop (mkF m 155 #[.val (.int p0), .val (.int p1), .val (.int p2), .val (.int p3), .val (.int p4), .val (.int p5), .val (.int kx), .val (.int dl), .val (.int sm), .val (.ref b5), .val (.ref b16), .val (.ref b28), .val (.int xe2), .val (.int xe3b), .unset, .unset, .unset, .unset, .unset, .unset, .unset, .unset, .unset, .unset] [])) _
        refine XS.iload Xx47.here hx rfl (hb hby at_155) rfl ?_
        exact kt)
    by_cases hc157 : sm = (0 : Int32)
    · exact ⟨(2 : Int32), (by rw [if_pos hc157]), fun t kt => pre56 t (by
          show Steps p.tables e below (T46.setTop (mkF m 157 #[.val (.int p0), .val (.int p1), .val (.int p2), .val (.int p3), .val (.int p4), .val (.int p5), .val (.int kx), .val (.int dl), .val (.int sm), .val (.ref b5), .val (.ref b16), .val (.ref b28), .val (.int xe2), .val (.int xe3b), .unset, .unset, .unset, .unset, .unset, .unset, .unset, .unset, .unset, .unset] [(.int sm)])) _
          refine XS.ifYes Xx47.here hx rfl (pc0 := 157) (pc' := 164) rfl (hb hby at_157) rfl ((if0 _ _).trans (teq (show sm = (0 : Int32) from hc157)).1) (by decide) (by decide) ?_
          show Steps p.tables e below (T46.setTop (mkF m 164 #[.val (.int p0), .val (.int p1), .val (.int p2), .val (.int p3), .val (.int p4), .val (.int p5), .val (.int kx), .val (.int dl), .val (.int sm), .val (.ref b5), .val (.ref b16), .val (.ref b28), .val (.int xe2), .val (.int xe3b), .unset, .unset, .unset, .unset, .unset, .unset, .unset, .unset, .unset, .unset] [])) _
          refine XS.iconst Xx47.here hx rfl (hb hby at_164) ?_
          exact kt)⟩
    · exact ⟨(0 : Int32), (by rw [if_neg hc157]), fun t kt => pre56 t (by
          show Steps p.tables e below (T46.setTop (mkF m 157 #[.val (.int p0), .val (.int p1), .val (.int p2), .val (.int p3), .val (.int p4), .val (.int p5), .val (.int kx), .val (.int dl), .val (.int sm), .val (.ref b5), .val (.ref b16), .val (.ref b28), .val (.int xe2), .val (.int xe3b), .unset, .unset, .unset, .unset, .unset, .unset, .unset, .unset, .unset, .unset] [(.int sm)])) _
          refine XS.ifNo Xx47.here hx rfl (hb hby at_157) rfl ((if0 _ _).trans (feq (show ¬ (sm = (0 : Int32)) from hc157)).1) ?_
          show Steps p.tables e below (T46.setTop (mkF m 160 #[.val (.int p0), .val (.int p1), .val (.int p2), .val (.int p3), .val (.int p4), .val (.int p5), .val (.int kx), .val (.int dl), .val (.int sm), .val (.ref b5), .val (.ref b16), .val (.ref b28), .val (.int xe2), .val (.int xe3b), .unset, .unset, .unset, .unset, .unset, .unset, .unset, .unset, .unset, .unset] [])) _
          refine XS.iconst Xx47.here hx rfl (hb hby at_160) ?_
          show Steps p.tables e below (T46.setTop (mkF m 161 #[.val (.int p0), .val (.int p1), .val (.int p2), .val (.int p3), .val (.int p4), .val (.int p5), .val (.int kx), .val (.int dl), .val (.int sm), .val (.ref b5), .val (.ref b16), .val (.ref b28), .val (.int xe2), .val (.int xe3b), .unset, .unset, .unset, .unset, .unset, .unset, .unset, .unset, .unset, .unset] [(.int (0 : Int32))])) _
          refine XS.goto Xx47.here hx rfl (pc0 := 161) (pc' := 165) rfl (hb hby at_161) (by decide) (by decide) ?_
          exact kt)⟩
  have f58 := ((((((((f27.ext E28).other W30 ne_b5_b28).other W32 ne_b5_b28).other W34 ne_b5_b28).other W36 ne_b5_b28).other W38 ne_b5_b28).other W42 ne_b5_b16).other W46 ne_b5_b28)
  obtain ⟨T59, h59, X59, e59, E59, A59, D59, -, st59⟩ := newO Xx47 hx hZ hown (hw _ (List.mem_of_getElem? (i := 1) rfl)) (hw _ (List.mem_of_getElem? (i := 2) rfl)) (hw _ (List.mem_of_getElem? (i := 3) rfl)) e46 (g := (mkF m 167 #[.val (.int p0), .val (.int p1), .val (.int p2), .val (.int p3), .val (.int p4), .val (.int p5), .val (.int kx), .val (.int dl), .val (.int sm), .val (.ref b5), .val (.ref b16), .val (.ref b28), .val (.int xe2), .val (.int xe3b), .val (.int xe3), .unset, .unset, .unset, .unset, .unset, .unset, .unset, .unset, .unset] [])) rfl (hb hby at_167) (by decide) (by decide)
  obtain ⟨b59, g59⟩ : ∃ z, z = h46.size := ⟨_, rfl⟩
  rw [← g59] at A59 D59 st59
  have g_b59 : n0 ≤ b59 := Nat.le_trans Z46 (Nat.le_of_eq g59.symm)
  have sz_b59 : h0.size ≤ b59 := Nat.le_trans K46.1 (Nat.le_of_eq g59.symm)
  have ne_b5_b59 : b5 ≠ b59 := Nat.ne_of_lt (Nat.lt_of_lt_of_le f58.lt (Nat.le_of_eq g59.symm))
  have ne_b16_b59 : b16 ≠ b59 := Nat.ne_of_lt (Nat.lt_of_lt_of_le Af2.lt (Nat.le_of_eq g59.symm))
  have ne_b28_b59 : b28 ≠ b59 := Nat.ne_of_lt (Nat.lt_of_lt_of_le Af3.lt (Nat.le_of_eq g59.symm))
  have K59 : Keep h0 h59 [] := Keep.ext K46 E59
  have Z59 : n0 ≤ h59.size := Nat.le_trans Z0 K59.1
  have F_codePoints_b59 : Fld Z h59 b59 "com/example/libforeword/libforeword/tree/NodeStore" "codePoints" "[I" .null := D59 (Or.inl (hw _ (List.mem_of_getElem? (i := 11) rfl))) (ty := (.array .int)) (by decide)
  have F_frequencies_b59 : Fld Z h59 b59 "com/example/libforeword/libforeword/tree/NodeStore" "frequencies" "[I" .null := D59 (Or.inl (hw _ (List.mem_of_getElem? (i := 13) rfl))) (ty := (.array .int)) (by decide)
  have F_lows_b59 : Fld Z h59 b59 "com/example/libforeword/libforeword/tree/NodeStore" "lows" "[I" .null := D59 (Or.inl (hw _ (List.mem_of_getElem? (i := 15) rfl))) (ty := (.array .int)) (by decide)
  have F_equals_b59 : Fld Z h59 b59 "com/example/libforeword/libforeword/tree/NodeStore" "equals" "[I" .null := D59 (Or.inl (hw _ (List.mem_of_getElem? (i := 17) rfl))) (ty := (.array .int)) (by decide)
  have F_highs_b59 : Fld Z h59 b59 "com/example/libforeword/libforeword/tree/NodeStore" "highs" "[I" .null := D59 (Or.inl (hw _ (List.mem_of_getElem? (i := 19) rfl))) (ty := (.array .int)) (by decide)
  have F_slots_b59 : Fld Z h59 b59 "com/example/libforeword/libforeword/tree/NodeStore" "slots" "[I" .null := D59 (Or.inl (hw _ (List.mem_of_getElem? (i := 28) rfl))) (ty := (.array .int)) (by decide)
  have F_size_b59 : Fld Z h59 b59 "com/example/libforeword/libforeword/tree/NodeStore" "size" "I" (.int (0 : Int32)) := D59 (Or.inl (hw _ (List.mem_of_getElem? (i := 51) rfl))) (ty := .int) (by decide)
  obtain ⟨_, _, ⟨T60, L60, k60, n60⟩, -, X60, ⟨Lc60, hQ60, l60, y60, z60⟩, st60⟩ := X59.specialBack hx (y := (⟨"com/example/libforeword/libforeword/tree/NodeStore", "<init>", "()V"⟩ : MethodName)) rfl hown (mvT hZ (hw _ (List.mem_of_getElem? (i := 4) rfl))) (mvT hZ (hw _ (List.mem_of_getElem? (i := 5) rfl))) (mvT hZ (hw _ (List.mem_of_getElem? (i := 6) rfl))) (by decide) (backOf (W := 1) (rmNI l Z a0 hw [] b59 h59 n0 Z59 A59 F_size_b59 F_codePoints_b59 F_frequencies_b59 F_lows_b59 F_equals_b59 F_highs_b59 F_slots_b59 g_b59) hZ (hw _ (List.mem_of_getElem? (i := 6) rfl)) (hw _ (List.mem_of_getElem? (i := 3) rfl)) (by decide) (by decide)) (g := (mkF m 171 #[.val (.int p0), .val (.int p1), .val (.int p2), .val (.int p3), .val (.int p4), .val (.int p5), .val (.int kx), .val (.int dl), .val (.int sm), .val (.ref b5), .val (.ref b16), .val (.ref b28), .val (.int xe2), .val (.int xe3b), .val (.int xe3), .unset, .unset, .unset, .unset, .unset, .unset, .unset, .unset, .unset] [(.ref b59), (.ref b59)])) rfl (by rw [hml]; rfl) (Steps.refl _) (a := b59) (argsL := []) (rest := [(.ref b59)]) (lenOf pd_5 rfl) rfl (by show 2 * 0 + _ ≤ _; exact Nat.le_of_eq rfl) (hb hby at_171) (fun _ _ => ⟨rfl, e59, (by decide : 4 + 6 ≤ _), (by decide : 22 + 448 ≤ _)⟩)
  dsimp only [Pt.U, Pt.locs, Pt.cells, Pt.slots] at X60 l60 y60 z60 st60 hQ60
  subst l60 y60 z60
  have f61 := (f58.ext E59)
  have f62 := (Af2.ext E59)
  have f63 := (Af3.ext E59)
  obtain ⟨rfl, N60q, K60, cp, fr, lo, eq, hi, sl, hNS, hD, ge_cp, ge_fr, ge_lo, ge_eq, ge_hi, ge_sl⟩ := hQ60
  have KK60 : Keep h0 T60.heap [] := Keep.trans K59 K60 (own_side1 (Or.inr sz_b59))
  have Z60 : n0 ≤ T60.heap.size := Nat.le_trans Z0 KK60.1
  have ne_b5_cp : b5 ≠ cp := Nat.ne_of_lt (Nat.lt_of_lt_of_le f61.lt ge_cp)
  have ne_b16_cp : b16 ≠ cp := Nat.ne_of_lt (Nat.lt_of_lt_of_le f62.lt ge_cp)
  have ne_b28_cp : b28 ≠ cp := Nat.ne_of_lt (Nat.lt_of_lt_of_le f63.lt ge_cp)
  have sz_cp : h0.size ≤ cp := Nat.le_trans K59.1 ge_cp
  have ne_b5_fr : b5 ≠ fr := Nat.ne_of_lt (Nat.lt_of_lt_of_le f61.lt ge_fr)
  have ne_b16_fr : b16 ≠ fr := Nat.ne_of_lt (Nat.lt_of_lt_of_le f62.lt ge_fr)
  have ne_b28_fr : b28 ≠ fr := Nat.ne_of_lt (Nat.lt_of_lt_of_le f63.lt ge_fr)
  have sz_fr : h0.size ≤ fr := Nat.le_trans K59.1 ge_fr
  have ne_b5_lo : b5 ≠ lo := Nat.ne_of_lt (Nat.lt_of_lt_of_le f61.lt ge_lo)
  have ne_b16_lo : b16 ≠ lo := Nat.ne_of_lt (Nat.lt_of_lt_of_le f62.lt ge_lo)
  have ne_b28_lo : b28 ≠ lo := Nat.ne_of_lt (Nat.lt_of_lt_of_le f63.lt ge_lo)
  have sz_lo : h0.size ≤ lo := Nat.le_trans K59.1 ge_lo
  have ne_b5_eq : b5 ≠ eq := Nat.ne_of_lt (Nat.lt_of_lt_of_le f61.lt ge_eq)
  have ne_b16_eq : b16 ≠ eq := Nat.ne_of_lt (Nat.lt_of_lt_of_le f62.lt ge_eq)
  have ne_b28_eq : b28 ≠ eq := Nat.ne_of_lt (Nat.lt_of_lt_of_le f63.lt ge_eq)
  have sz_eq : h0.size ≤ eq := Nat.le_trans K59.1 ge_eq
  have ne_b5_hi : b5 ≠ hi := Nat.ne_of_lt (Nat.lt_of_lt_of_le f61.lt ge_hi)
  have ne_b16_hi : b16 ≠ hi := Nat.ne_of_lt (Nat.lt_of_lt_of_le f62.lt ge_hi)
  have ne_b28_hi : b28 ≠ hi := Nat.ne_of_lt (Nat.lt_of_lt_of_le f63.lt ge_hi)
  have sz_hi : h0.size ≤ hi := Nat.le_trans K59.1 ge_hi
  have ne_b5_sl : b5 ≠ sl := Nat.ne_of_lt (Nat.lt_of_lt_of_le f61.lt ge_sl)
  have ne_b16_sl : b16 ≠ sl := Nat.ne_of_lt (Nat.lt_of_lt_of_le f62.lt ge_sl)
  have ne_b28_sl : b28 ≠ sl := Nat.ne_of_lt (Nat.lt_of_lt_of_le f63.lt ge_sl)
  have sz_sl : h0.size ≤ sl := Nat.le_trans K59.1 ge_sl
  have N60 := Fr.app Nx47 N60q
  obtain ⟨lx64, Xx64, Nx64⟩ : ∃ lx, Stand p l e room_1 s m #[(.int p0), (.int p1), (.int p2), (.int p3), (.int p4), (.int p5)] below meth c T60 lx 10 470 ∧ Fr n0 lx := ⟨_, X60, N60⟩
  have f66 := (f61.keep K60 (own_notin1 ne_b5_b59))
  obtain ⟨_, _, ⟨T65, L65, k65, n65⟩, -, X65, ⟨Lc65, hQ65, l65, y65, z65⟩, st65⟩ := Jvm.LawKit.callS Xx64 hx (y := (⟨"com/example/libforeword/libforeword/tree/NodeStoreAddPinLaw", "add", "(Lcom/example/libforeword/libforeword/tree/NodeStore;[I)I"⟩ : MethodName)) hown (mvT hZ (hw _ (List.mem_of_getElem? (i := 29) rfl))) (mvT hZ (hw _ (List.mem_of_getElem? (i := 30) rfl))) (mvT hZ (hw _ (List.mem_of_getElem? (i := 31) rfl))) (mvT hZ (hw _ (List.mem_of_getElem? (i := 32) rfl))) (by decide) (backOf (W := 0) (rmWA l Z a0 hw [] b59 cp fr lo eq hi sl emptyS b5 f1 T60.heap n0 Z60 hNS hD f66 r1) hZ (hw _ (List.mem_of_getElem? (i := 32) rfl)) (hw _ (List.mem_of_getElem? (i := 31) rfl)) (by decide) (by decide)) (g := (mkF m 180 #[.val (.int p0), .val (.int p1), .val (.int p2), .val (.int p3), .val (.int p4), .val (.int p5), .val (.int kx), .val (.int dl), .val (.int sm), .val (.ref b5), .val (.ref b16), .val (.ref b28), .val (.int xe2), .val (.int xe3b), .val (.int xe3), .val (.ref b59), .unset, .unset, .unset, .unset, .unset, .unset, .unset, .unset] [(.ref b5), (.ref b59)])) rfl (by rw [hml]; rfl) (argsL := [(.ref b59), (.ref b5)]) (rest := []) (lenOf pd_6 rfl) rfl (by show 2 * 0 + _ ≤ _; exact Nat.le_of_eq rfl) (hb hby at_180) (fun _ _ => ⟨rfl, rfl, (by decide : 10 + 0 ≤ _), (by decide : 470 + 0 ≤ _)⟩)
  dsimp only [Pt.U, Pt.locs, Pt.cells, Pt.slots] at X65 l65 y65 z65 st65 hQ65
  subst l65 y65 z65
  obtain ⟨rfl, N65q, K65, hNS65⟩ := hQ65
  have KK65 : Keep h0 T65.heap [] := Keep.trans KK60 K65 (own_side7 (Or.inr sz_b59) (Or.inr sz_cp) (Or.inr sz_fr) (Or.inr sz_lo) (Or.inr sz_eq) (Or.inr sz_hi) (Or.inr sz_sl))
  have Z65 : n0 ≤ T65.heap.size := Nat.le_trans Z0 KK65.1
  have hNT65 : NS Z T65.heap n0 b59 cp fr lo eq hi sl s1 := by rw [hs1]; exact hNS65
  have N65 := Fr.app Nx64 N65q
  obtain ⟨lx67, Xx67, Nx67⟩ : ∃ lx, Stand p l e room_1 s m #[(.int p0), (.int p1), (.int p2), (.int p3), (.int p4), (.int p5)] below meth c T65 lx 10 470 ∧ Fr n0 lx := ⟨_, X65, N65⟩
  have f69 := ((f62.keep K60 (own_notin1 ne_b16_b59)).keep K65 (own_notin7 ne_b16_b59 ne_b16_cp ne_b16_fr ne_b16_lo ne_b16_eq ne_b16_hi ne_b16_sl))
  obtain ⟨_, _, ⟨T68, L68, k68, n68⟩, -, X68, ⟨Lc68, hQ68, l68, y68, z68⟩, st68⟩ := Jvm.LawKit.callS Xx67 hx (y := (⟨"com/example/libforeword/libforeword/tree/NodeStoreAddPinLaw", "add", "(Lcom/example/libforeword/libforeword/tree/NodeStore;[I)I"⟩ : MethodName)) hown (mvT hZ (hw _ (List.mem_of_getElem? (i := 29) rfl))) (mvT hZ (hw _ (List.mem_of_getElem? (i := 30) rfl))) (mvT hZ (hw _ (List.mem_of_getElem? (i := 31) rfl))) (mvT hZ (hw _ (List.mem_of_getElem? (i := 32) rfl))) (by decide) (backOf (W := 0) (rmWA l Z a0 hw [] b59 cp fr lo eq hi sl s1 b16 f2 T65.heap n0 Z65 hNT65 hD f69 r2) hZ (hw _ (List.mem_of_getElem? (i := 32) rfl)) (hw _ (List.mem_of_getElem? (i := 31) rfl)) (by decide) (by decide)) (g := (mkF m 189 #[.val (.int p0), .val (.int p1), .val (.int p2), .val (.int p3), .val (.int p4), .val (.int p5), .val (.int kx), .val (.int dl), .val (.int sm), .val (.ref b5), .val (.ref b16), .val (.ref b28), .val (.int xe2), .val (.int xe3b), .val (.int xe3), .val (.ref b59), .val (.int (addV emptyS (f1 (0 : Int32)) (f1 (1 : Int32)) (f1 (2 : Int32)) (f1 (3 : Int32)) (f1 (4 : Int32)))), .unset, .unset, .unset, .unset, .unset, .unset, .unset] [(.ref b16), (.ref b59)])) rfl (by rw [hml]; rfl) (argsL := [(.ref b59), (.ref b16)]) (rest := []) (lenOf pd_6 rfl) rfl (by show 2 * 0 + _ ≤ _; exact Nat.le_of_eq rfl) (hb hby at_189) (fun _ _ => ⟨rfl, rfl, (by decide : 10 + 0 ≤ _), (by decide : 470 + 0 ≤ _)⟩)
  dsimp only [Pt.U, Pt.locs, Pt.cells, Pt.slots] at X68 l68 y68 z68 st68 hQ68
  subst l68 y68 z68
  obtain ⟨rfl, N68q, K68, hNS68⟩ := hQ68
  have KK68 : Keep h0 T68.heap [] := Keep.trans KK65 K68 (own_side7 (Or.inr sz_b59) (Or.inr sz_cp) (Or.inr sz_fr) (Or.inr sz_lo) (Or.inr sz_eq) (Or.inr sz_hi) (Or.inr sz_sl))
  have Z68 : n0 ≤ T68.heap.size := Nat.le_trans Z0 KK68.1
  have hNT68 : NS Z T68.heap n0 b59 cp fr lo eq hi sl s2 := by rw [hs2]; exact hNS68
  have N68 := Fr.app Nx67 N68q
  obtain ⟨lx70, Xx70, Nx70⟩ : ∃ lx, Stand p l e room_1 s m #[(.int p0), (.int p1), (.int p2), (.int p3), (.int p4), (.int p5)] below meth c T68 lx 10 470 ∧ Fr n0 lx := ⟨_, X68, N68⟩
  have f72 := (((f63.keep K60 (own_notin1 ne_b28_b59)).keep K65 (own_notin7 ne_b28_b59 ne_b28_cp ne_b28_fr ne_b28_lo ne_b28_eq ne_b28_hi ne_b28_sl)).keep K68 (own_notin7 ne_b28_b59 ne_b28_cp ne_b28_fr ne_b28_lo ne_b28_eq ne_b28_hi ne_b28_sl))
  obtain ⟨_, _, ⟨T71, L71, k71, n71⟩, -, X71, ⟨Lc71, hQ71, l71, y71, z71⟩, st71⟩ := Jvm.LawKit.callS Xx70 hx (y := (⟨"com/example/libforeword/libforeword/tree/NodeStoreAddPinLaw", "find", "(Lcom/example/libforeword/libforeword/tree/NodeStore;[I)I"⟩ : MethodName)) hown (mvT hZ (hw _ (List.mem_of_getElem? (i := 56) rfl))) (mvT hZ (hw _ (List.mem_of_getElem? (i := 57) rfl))) (mvT hZ (hw _ (List.mem_of_getElem? (i := 31) rfl))) (mvT hZ (hw _ (List.mem_of_getElem? (i := 58) rfl))) (by decide) (backOf (W := 0) (rmWF l Z a0 hw [] b59 cp fr lo eq hi sl s2 b28 f3 T68.heap n0 Z68 hNT68 hD f72 r3) hZ (hw _ (List.mem_of_getElem? (i := 58) rfl)) (hw _ (List.mem_of_getElem? (i := 31) rfl)) (by decide) (by decide)) (g := (mkF m 198 #[.val (.int p0), .val (.int p1), .val (.int p2), .val (.int p3), .val (.int p4), .val (.int p5), .val (.int kx), .val (.int dl), .val (.int sm), .val (.ref b5), .val (.ref b16), .val (.ref b28), .val (.int xe2), .val (.int xe3b), .val (.int xe3), .val (.ref b59), .val (.int (addV emptyS (f1 (0 : Int32)) (f1 (1 : Int32)) (f1 (2 : Int32)) (f1 (3 : Int32)) (f1 (4 : Int32)))), .val (.int (addV s1 (f2 (0 : Int32)) (f2 (1 : Int32)) (f2 (2 : Int32)) (f2 (3 : Int32)) (f2 (4 : Int32)))), .unset, .unset, .unset, .unset, .unset, .unset] [(.ref b28), (.ref b59)])) rfl (by rw [hml]; rfl) (argsL := [(.ref b59), (.ref b28)]) (rest := []) (lenOf pd_6 rfl) rfl (by show 2 * 0 + _ ≤ _; exact Nat.le_of_eq rfl) (hb hby at_198) (fun _ _ => ⟨rfl, rfl, (by decide : 10 + 0 ≤ _), (by decide : 470 + 0 ≤ _)⟩)
  dsimp only [Pt.U, Pt.locs, Pt.cells, Pt.slots] at X71 l71 y71 z71 st71 hQ71
  subst l71 y71 z71
  obtain ⟨rfl, N71q, e71⟩ := hQ71
  have N71 := Fr.app Nx70 N71q
  obtain ⟨lx73, Xx73, Nx73⟩ : ∃ lx, Stand p l e room_1 s m #[(.int p0), (.int p1), (.int p2), (.int p3), (.int p4), (.int p5)] below meth c T71 lx 10 470 ∧ Fr n0 lx := ⟨_, X71, N71⟩
  obtain ⟨_, _, ⟨T74, L74, k74, n74⟩, -, X74, ⟨Lc74, hQ74, l74, y74, z74⟩, st74⟩ := Jvm.LawKit.callS Xx73 hx (y := (⟨"com/example/libforeword/libforeword/tree/NodeStoreAddPinLaw", "add", "(Lcom/example/libforeword/libforeword/tree/NodeStore;[I)I"⟩ : MethodName)) hown (mvT hZ (hw _ (List.mem_of_getElem? (i := 29) rfl))) (mvT hZ (hw _ (List.mem_of_getElem? (i := 30) rfl))) (mvT hZ (hw _ (List.mem_of_getElem? (i := 31) rfl))) (mvT hZ (hw _ (List.mem_of_getElem? (i := 32) rfl))) (by decide) (backOf (W := 0) (rmWA l Z a0 hw [] b59 cp fr lo eq hi sl s2 b28 f3 T68.heap n0 Z68 hNT68 hD f72 r3) hZ (hw _ (List.mem_of_getElem? (i := 32) rfl)) (hw _ (List.mem_of_getElem? (i := 31) rfl)) (by decide) (by decide)) (g := (mkF m 207 #[.val (.int p0), .val (.int p1), .val (.int p2), .val (.int p3), .val (.int p4), .val (.int p5), .val (.int kx), .val (.int dl), .val (.int sm), .val (.ref b5), .val (.ref b16), .val (.ref b28), .val (.int xe2), .val (.int xe3b), .val (.int xe3), .val (.ref b59), .val (.int (addV emptyS (f1 (0 : Int32)) (f1 (1 : Int32)) (f1 (2 : Int32)) (f1 (3 : Int32)) (f1 (4 : Int32)))), .val (.int (addV s1 (f2 (0 : Int32)) (f2 (1 : Int32)) (f2 (2 : Int32)) (f2 (3 : Int32)) (f2 (4 : Int32)))), .val (.int (findV s2 (f3 (0 : Int32)) (f3 (1 : Int32)) (f3 (2 : Int32)) (f3 (3 : Int32)) (f3 (4 : Int32)))), .unset, .unset, .unset, .unset, .unset] [(.ref b28), (.ref b59)])) rfl (by rw [hml]; rfl) (argsL := [(.ref b59), (.ref b28)]) (rest := []) (lenOf pd_6 rfl) rfl (by show 2 * 0 + _ ≤ _; exact Nat.le_of_eq rfl) (hb hby at_207) (fun _ _ => ⟨rfl, e71, (by decide : 10 + 0 ≤ _), (by decide : 470 + 0 ≤ _)⟩)
  dsimp only [Pt.U, Pt.locs, Pt.cells, Pt.slots] at X74 l74 y74 z74 st74 hQ74
  subst l74 y74 z74
  obtain ⟨rfl, N74q, K74, hNS74⟩ := hQ74
  have KK74 : Keep h0 T74.heap [] := Keep.trans KK68 K74 (own_side7 (Or.inr sz_b59) (Or.inr sz_cp) (Or.inr sz_fr) (Or.inr sz_lo) (Or.inr sz_eq) (Or.inr sz_hi) (Or.inr sz_sl))
  have Z74 : n0 ≤ T74.heap.size := Nat.le_trans Z0 KK74.1
  have hNT74 : NS Z T74.heap n0 b59 cp fr lo eq hi sl s3 := by rw [hs3]; exact hNS74
  have N74 := Fr.app Nx73 N74q
  obtain ⟨lx75, Xx75, Nx75⟩ : ∃ lx, Stand p l e room_1 s m #[(.int p0), (.int p1), (.int p2), (.int p3), (.int p4), (.int p5)] below meth c T74 lx 10 470 ∧ Fr n0 lx := ⟨_, X74, N74⟩
  have f77 := (((f66.keep K65 (own_notin7 ne_b5_b59 ne_b5_cp ne_b5_fr ne_b5_lo ne_b5_eq ne_b5_hi ne_b5_sl)).keep K68 (own_notin7 ne_b5_b59 ne_b5_cp ne_b5_fr ne_b5_lo ne_b5_eq ne_b5_hi ne_b5_sl)).keep K74 (own_notin7 ne_b5_b59 ne_b5_cp ne_b5_fr ne_b5_lo ne_b5_eq ne_b5_hi ne_b5_sl))
  obtain ⟨_, _, ⟨T76, L76, k76, n76⟩, -, X76, ⟨Lc76, hQ76, l76, y76, z76⟩, st76⟩ := Jvm.LawKit.callS Xx75 hx (y := (⟨"com/example/libforeword/libforeword/tree/NodeStoreAddPinLaw", "add", "(Lcom/example/libforeword/libforeword/tree/NodeStore;[I)I"⟩ : MethodName)) hown (mvT hZ (hw _ (List.mem_of_getElem? (i := 29) rfl))) (mvT hZ (hw _ (List.mem_of_getElem? (i := 30) rfl))) (mvT hZ (hw _ (List.mem_of_getElem? (i := 31) rfl))) (mvT hZ (hw _ (List.mem_of_getElem? (i := 32) rfl))) (by decide) (backOf (W := 0) (rmWA l Z a0 hw [] b59 cp fr lo eq hi sl s3 b5 f1 T74.heap n0 Z74 hNT74 hD f77 r4) hZ (hw _ (List.mem_of_getElem? (i := 32) rfl)) (hw _ (List.mem_of_getElem? (i := 31) rfl)) (by decide) (by decide)) (g := (mkF m 216 #[.val (.int p0), .val (.int p1), .val (.int p2), .val (.int p3), .val (.int p4), .val (.int p5), .val (.int kx), .val (.int dl), .val (.int sm), .val (.ref b5), .val (.ref b16), .val (.ref b28), .val (.int xe2), .val (.int xe3b), .val (.int xe3), .val (.ref b59), .val (.int (addV emptyS (f1 (0 : Int32)) (f1 (1 : Int32)) (f1 (2 : Int32)) (f1 (3 : Int32)) (f1 (4 : Int32)))), .val (.int (addV s1 (f2 (0 : Int32)) (f2 (1 : Int32)) (f2 (2 : Int32)) (f2 (3 : Int32)) (f2 (4 : Int32)))), .val (.int (findV s2 (f3 (0 : Int32)) (f3 (1 : Int32)) (f3 (2 : Int32)) (f3 (3 : Int32)) (f3 (4 : Int32)))), .val (.int (addV s2 (f3 (0 : Int32)) (f3 (1 : Int32)) (f3 (2 : Int32)) (f3 (3 : Int32)) (f3 (4 : Int32)))), .unset, .unset, .unset, .unset] [(.ref b5), (.ref b59)])) rfl (by rw [hml]; rfl) (argsL := [(.ref b59), (.ref b5)]) (rest := []) (lenOf pd_6 rfl) rfl (by show 2 * 0 + _ ≤ _; exact Nat.le_of_eq rfl) (hb hby at_216) (fun _ _ => ⟨rfl, rfl, (by decide : 10 + 0 ≤ _), (by decide : 470 + 0 ≤ _)⟩)
  dsimp only [Pt.U, Pt.locs, Pt.cells, Pt.slots] at X76 l76 y76 z76 st76 hQ76
  subst l76 y76 z76
  obtain ⟨rfl, N76q, K76, hNS76⟩ := hQ76
  have KK76 : Keep h0 T76.heap [] := Keep.trans KK74 K76 (own_side7 (Or.inr sz_b59) (Or.inr sz_cp) (Or.inr sz_fr) (Or.inr sz_lo) (Or.inr sz_eq) (Or.inr sz_hi) (Or.inr sz_sl))
  have Z76 : n0 ≤ T76.heap.size := Nat.le_trans Z0 KK76.1
  have hNT76 : NS Z T76.heap n0 b59 cp fr lo eq hi sl s4 := by rw [hs4]; exact hNS76
  have N76 := Fr.app Nx75 N76q
  obtain ⟨lx78, Xx78, Nx78⟩ : ∃ lx, Stand p l e room_1 s m #[(.int p0), (.int p1), (.int p2), (.int p3), (.int p4), (.int p5)] below meth c T76 lx 10 470 ∧ Fr n0 lx := ⟨_, X76, N76⟩
  have f80 := (f77.keep K76 (own_notin7 ne_b5_b59 ne_b5_cp ne_b5_fr ne_b5_lo ne_b5_eq ne_b5_hi ne_b5_sl))
  obtain ⟨_, _, ⟨T79, L79, k79, n79⟩, -, X79, ⟨Lc79, hQ79, l79, y79, z79⟩, st79⟩ := Jvm.LawKit.callS Xx78 hx (y := (⟨"com/example/libforeword/libforeword/tree/NodeStoreAddPinLaw", "find", "(Lcom/example/libforeword/libforeword/tree/NodeStore;[I)I"⟩ : MethodName)) hown (mvT hZ (hw _ (List.mem_of_getElem? (i := 56) rfl))) (mvT hZ (hw _ (List.mem_of_getElem? (i := 57) rfl))) (mvT hZ (hw _ (List.mem_of_getElem? (i := 31) rfl))) (mvT hZ (hw _ (List.mem_of_getElem? (i := 58) rfl))) (by decide) (backOf (W := 0) (rmWF l Z a0 hw [] b59 cp fr lo eq hi sl s4 b5 f1 T76.heap n0 Z76 hNT76 hD f80 r5) hZ (hw _ (List.mem_of_getElem? (i := 58) rfl)) (hw _ (List.mem_of_getElem? (i := 31) rfl)) (by decide) (by decide)) (g := (mkF m 225 #[.val (.int p0), .val (.int p1), .val (.int p2), .val (.int p3), .val (.int p4), .val (.int p5), .val (.int kx), .val (.int dl), .val (.int sm), .val (.ref b5), .val (.ref b16), .val (.ref b28), .val (.int xe2), .val (.int xe3b), .val (.int xe3), .val (.ref b59), .val (.int (addV emptyS (f1 (0 : Int32)) (f1 (1 : Int32)) (f1 (2 : Int32)) (f1 (3 : Int32)) (f1 (4 : Int32)))), .val (.int (addV s1 (f2 (0 : Int32)) (f2 (1 : Int32)) (f2 (2 : Int32)) (f2 (3 : Int32)) (f2 (4 : Int32)))), .val (.int (findV s2 (f3 (0 : Int32)) (f3 (1 : Int32)) (f3 (2 : Int32)) (f3 (3 : Int32)) (f3 (4 : Int32)))), .val (.int (addV s2 (f3 (0 : Int32)) (f3 (1 : Int32)) (f3 (2 : Int32)) (f3 (3 : Int32)) (f3 (4 : Int32)))), .val (.int (addV s3 (f1 (0 : Int32)) (f1 (1 : Int32)) (f1 (2 : Int32)) (f1 (3 : Int32)) (f1 (4 : Int32)))), .unset, .unset, .unset] [(.ref b5), (.ref b59)])) rfl (by rw [hml]; rfl) (argsL := [(.ref b59), (.ref b5)]) (rest := []) (lenOf pd_6 rfl) rfl (by show 2 * 0 + _ ≤ _; exact Nat.le_of_eq rfl) (hb hby at_225) (fun _ _ => ⟨rfl, rfl, (by decide : 10 + 0 ≤ _), (by decide : 470 + 0 ≤ _)⟩)
  dsimp only [Pt.U, Pt.locs, Pt.cells, Pt.slots] at X79 l79 y79 z79 st79 hQ79
  subst l79 y79 z79
  obtain ⟨rfl, N79q, e79⟩ := hQ79
  have N79 := Fr.app Nx78 N79q
  obtain ⟨lx81, Xx81, Nx81⟩ : ∃ lx, Stand p l e room_1 s m #[(.int p0), (.int p1), (.int p2), (.int p3), (.int p4), (.int p5)] below meth c T79 lx 10 470 ∧ Fr n0 lx := ⟨_, X79, N79⟩
  have f83 := (((f69.keep K68 (own_notin7 ne_b16_b59 ne_b16_cp ne_b16_fr ne_b16_lo ne_b16_eq ne_b16_hi ne_b16_sl)).keep K74 (own_notin7 ne_b16_b59 ne_b16_cp ne_b16_fr ne_b16_lo ne_b16_eq ne_b16_hi ne_b16_sl)).keep K76 (own_notin7 ne_b16_b59 ne_b16_cp ne_b16_fr ne_b16_lo ne_b16_eq ne_b16_hi ne_b16_sl))
  obtain ⟨_, _, ⟨T82, L82, k82, n82⟩, -, X82, ⟨Lc82, hQ82, l82, y82, z82⟩, st82⟩ := Jvm.LawKit.callS Xx81 hx (y := (⟨"com/example/libforeword/libforeword/tree/NodeStoreAddPinLaw", "find", "(Lcom/example/libforeword/libforeword/tree/NodeStore;[I)I"⟩ : MethodName)) hown (mvT hZ (hw _ (List.mem_of_getElem? (i := 56) rfl))) (mvT hZ (hw _ (List.mem_of_getElem? (i := 57) rfl))) (mvT hZ (hw _ (List.mem_of_getElem? (i := 31) rfl))) (mvT hZ (hw _ (List.mem_of_getElem? (i := 58) rfl))) (by decide) (backOf (W := 0) (rmWF l Z a0 hw [] b59 cp fr lo eq hi sl s4 b16 f2 T76.heap n0 Z76 hNT76 hD f83 r6) hZ (hw _ (List.mem_of_getElem? (i := 58) rfl)) (hw _ (List.mem_of_getElem? (i := 31) rfl)) (by decide) (by decide)) (g := (mkF m 234 #[.val (.int p0), .val (.int p1), .val (.int p2), .val (.int p3), .val (.int p4), .val (.int p5), .val (.int kx), .val (.int dl), .val (.int sm), .val (.ref b5), .val (.ref b16), .val (.ref b28), .val (.int xe2), .val (.int xe3b), .val (.int xe3), .val (.ref b59), .val (.int (addV emptyS (f1 (0 : Int32)) (f1 (1 : Int32)) (f1 (2 : Int32)) (f1 (3 : Int32)) (f1 (4 : Int32)))), .val (.int (addV s1 (f2 (0 : Int32)) (f2 (1 : Int32)) (f2 (2 : Int32)) (f2 (3 : Int32)) (f2 (4 : Int32)))), .val (.int (findV s2 (f3 (0 : Int32)) (f3 (1 : Int32)) (f3 (2 : Int32)) (f3 (3 : Int32)) (f3 (4 : Int32)))), .val (.int (addV s2 (f3 (0 : Int32)) (f3 (1 : Int32)) (f3 (2 : Int32)) (f3 (3 : Int32)) (f3 (4 : Int32)))), .val (.int (addV s3 (f1 (0 : Int32)) (f1 (1 : Int32)) (f1 (2 : Int32)) (f1 (3 : Int32)) (f1 (4 : Int32)))), .val (.int (findV s4 (f1 (0 : Int32)) (f1 (1 : Int32)) (f1 (2 : Int32)) (f1 (3 : Int32)) (f1 (4 : Int32)))), .unset, .unset] [(.ref b16), (.ref b59)])) rfl (by rw [hml]; rfl) (argsL := [(.ref b59), (.ref b16)]) (rest := []) (lenOf pd_6 rfl) rfl (by show 2 * 0 + _ ≤ _; exact Nat.le_of_eq rfl) (hb hby at_234) (fun _ _ => ⟨rfl, e79, (by decide : 10 + 0 ≤ _), (by decide : 470 + 0 ≤ _)⟩)
  dsimp only [Pt.U, Pt.locs, Pt.cells, Pt.slots] at X82 l82 y82 z82 st82 hQ82
  subst l82 y82 z82
  obtain ⟨rfl, N82q, e82⟩ := hQ82
  have N82 := Fr.app Nx81 N82q
  obtain ⟨lx84, Xx84, Nx84⟩ : ∃ lx, Stand p l e room_1 s m #[(.int p0), (.int p1), (.int p2), (.int p3), (.int p4), (.int p5)] below meth c T82 lx 10 470 ∧ Fr n0 lx := ⟨_, X82, N82⟩
  have f86 := ((f72.keep K74 (own_notin7 ne_b28_b59 ne_b28_cp ne_b28_fr ne_b28_lo ne_b28_eq ne_b28_hi ne_b28_sl)).keep K76 (own_notin7 ne_b28_b59 ne_b28_cp ne_b28_fr ne_b28_lo ne_b28_eq ne_b28_hi ne_b28_sl))
  obtain ⟨_, _, ⟨T85, L85, k85, n85⟩, -, X85, ⟨Lc85, hQ85, l85, y85, z85⟩, st85⟩ := Jvm.LawKit.callS Xx84 hx (y := (⟨"com/example/libforeword/libforeword/tree/NodeStoreAddPinLaw", "find", "(Lcom/example/libforeword/libforeword/tree/NodeStore;[I)I"⟩ : MethodName)) hown (mvT hZ (hw _ (List.mem_of_getElem? (i := 56) rfl))) (mvT hZ (hw _ (List.mem_of_getElem? (i := 57) rfl))) (mvT hZ (hw _ (List.mem_of_getElem? (i := 31) rfl))) (mvT hZ (hw _ (List.mem_of_getElem? (i := 58) rfl))) (by decide) (backOf (W := 0) (rmWF l Z a0 hw [] b59 cp fr lo eq hi sl s4 b28 f3 T76.heap n0 Z76 hNT76 hD f86 r7) hZ (hw _ (List.mem_of_getElem? (i := 58) rfl)) (hw _ (List.mem_of_getElem? (i := 31) rfl)) (by decide) (by decide)) (g := (mkF m 243 #[.val (.int p0), .val (.int p1), .val (.int p2), .val (.int p3), .val (.int p4), .val (.int p5), .val (.int kx), .val (.int dl), .val (.int sm), .val (.ref b5), .val (.ref b16), .val (.ref b28), .val (.int xe2), .val (.int xe3b), .val (.int xe3), .val (.ref b59), .val (.int (addV emptyS (f1 (0 : Int32)) (f1 (1 : Int32)) (f1 (2 : Int32)) (f1 (3 : Int32)) (f1 (4 : Int32)))), .val (.int (addV s1 (f2 (0 : Int32)) (f2 (1 : Int32)) (f2 (2 : Int32)) (f2 (3 : Int32)) (f2 (4 : Int32)))), .val (.int (findV s2 (f3 (0 : Int32)) (f3 (1 : Int32)) (f3 (2 : Int32)) (f3 (3 : Int32)) (f3 (4 : Int32)))), .val (.int (addV s2 (f3 (0 : Int32)) (f3 (1 : Int32)) (f3 (2 : Int32)) (f3 (3 : Int32)) (f3 (4 : Int32)))), .val (.int (addV s3 (f1 (0 : Int32)) (f1 (1 : Int32)) (f1 (2 : Int32)) (f1 (3 : Int32)) (f1 (4 : Int32)))), .val (.int (findV s4 (f1 (0 : Int32)) (f1 (1 : Int32)) (f1 (2 : Int32)) (f1 (3 : Int32)) (f1 (4 : Int32)))), .val (.int (findV s4 (f2 (0 : Int32)) (f2 (1 : Int32)) (f2 (2 : Int32)) (f2 (3 : Int32)) (f2 (4 : Int32)))), .unset] [(.ref b28), (.ref b59)])) rfl (by rw [hml]; rfl) (argsL := [(.ref b59), (.ref b28)]) (rest := []) (lenOf pd_6 rfl) rfl (by show 2 * 0 + _ ≤ _; exact Nat.le_of_eq rfl) (hb hby at_243) (fun _ _ => ⟨rfl, e82, (by decide : 10 + 0 ≤ _), (by decide : 470 + 0 ≤ _)⟩)
  dsimp only [Pt.U, Pt.locs, Pt.cells, Pt.slots] at X85 l85 y85 z85 st85 hQ85
  subst l85 y85 z85
  obtain ⟨rfl, N85q, e85⟩ := hQ85
  have N85 := Fr.app Nx84 N85q
  obtain ⟨lx87, Xx87, Nx87⟩ : ∃ lx, Stand p l e room_1 s m #[(.int p0), (.int p1), (.int p2), (.int p3), (.int p4), (.int p5)] below meth c T85 lx 10 470 ∧ Fr n0 lx := ⟨_, X85, N85⟩
  obtain ⟨fs, hr, hrun, hended, hW, hsame⟩ := Xx87.leave (v := some (.int (1 : Int32))) (fun h => by rw [Bd.returns] at h; cases h)
  refine ⟨_, _, pre57 _ ?_, hrun, hended, _, _, rfl, ?_, ⟨_, rfl⟩, hW, hsame.mono (by decide) (by decide)⟩
  · show Steps p.tables e below (T46.setTop (mkF m 165 #[.val (.int p0), .val (.int p1), .val (.int p2), .val (.int p3), .val (.int p4), .val (.int p5), .val (.int kx), .val (.int dl), .val (.int sm), .val (.ref b5), .val (.ref b16), .val (.ref b28), .val (.int xe2), .val (.int xe3b), .unset, .unset, .unset, .unset, .unset, .unset, .unset, .unset, .unset, .unset] [(.int xe3)])) _
    refine XS.istore Xx47.here hx rfl (hb hby at_165) rfl (l' := #[.val (.int p0), .val (.int p1), .val (.int p2), .val (.int p3), .val (.int p4), .val (.int p5), .val (.int kx), .val (.int dl), .val (.int sm), .val (.ref b5), .val (.ref b16), .val (.ref b28), .val (.int xe2), .val (.int xe3b), .val (.int xe3), .unset, .unset, .unset, .unset, .unset, .unset, .unset, .unset, .unset]) rfl ?_
    show Steps p.tables e below (T46.setTop (mkF m 167 #[.val (.int p0), .val (.int p1), .val (.int p2), .val (.int p3), .val (.int p4), .val (.int p5), .val (.int kx), .val (.int dl), .val (.int sm), .val (.ref b5), .val (.ref b16), .val (.ref b28), .val (.int xe2), .val (.int xe3b), .val (.int xe3), .unset, .unset, .unset, .unset, .unset, .unset, .unset, .unset, .unset] [])) _
    refine st59 _ ?_
    show Steps p.tables e below (T59.setTop (mkF m 170 #[.val (.int p0), .val (.int p1), .val (.int p2), .val (.int p3), .val (.int p4), .val (.int p5), .val (.int kx), .val (.int dl), .val (.int sm), .val (.ref b5), .val (.ref b16), .val (.ref b28), .val (.int xe2), .val (.int xe3b), .val (.int xe3), .unset, .unset, .unset, .unset, .unset, .unset, .unset, .unset, .unset] [(.ref b59)])) _
    refine XS.dup X59.here hx rfl (hb hby at_170) rfl rfl ?_
    show Steps p.tables e below (T59.setTop (mkF m 171 #[.val (.int p0), .val (.int p1), .val (.int p2), .val (.int p3), .val (.int p4), .val (.int p5), .val (.int kx), .val (.int dl), .val (.int sm), .val (.ref b5), .val (.ref b16), .val (.ref b28), .val (.int xe2), .val (.int xe3b), .val (.int xe3), .unset, .unset, .unset, .unset, .unset, .unset, .unset, .unset, .unset] [(.ref b59), (.ref b59)])) _
    refine st60.trans ?_
    show Steps p.tables e below (T60.setTop (mkF m 174 #[.val (.int p0), .val (.int p1), .val (.int p2), .val (.int p3), .val (.int p4), .val (.int p5), .val (.int kx), .val (.int dl), .val (.int sm), .val (.ref b5), .val (.ref b16), .val (.ref b28), .val (.int xe2), .val (.int xe3b), .val (.int xe3), .unset, .unset, .unset, .unset, .unset, .unset, .unset, .unset, .unset] [(.ref b59)])) _
    refine XS.astore X60.here hx rfl (hb hby at_174) rfl rfl (l' := #[.val (.int p0), .val (.int p1), .val (.int p2), .val (.int p3), .val (.int p4), .val (.int p5), .val (.int kx), .val (.int dl), .val (.int sm), .val (.ref b5), .val (.ref b16), .val (.ref b28), .val (.int xe2), .val (.int xe3b), .val (.int xe3), .val (.ref b59), .unset, .unset, .unset, .unset, .unset, .unset, .unset, .unset]) rfl ?_
    show Steps p.tables e below (T60.setTop (mkF m 176 #[.val (.int p0), .val (.int p1), .val (.int p2), .val (.int p3), .val (.int p4), .val (.int p5), .val (.int kx), .val (.int dl), .val (.int sm), .val (.ref b5), .val (.ref b16), .val (.ref b28), .val (.int xe2), .val (.int xe3b), .val (.int xe3), .val (.ref b59), .unset, .unset, .unset, .unset, .unset, .unset, .unset, .unset] [])) _
    refine XS.aload Xx64.here hx rfl (hb hby at_176) rfl rfl ?_
    show Steps p.tables e below (T60.setTop (mkF m 178 #[.val (.int p0), .val (.int p1), .val (.int p2), .val (.int p3), .val (.int p4), .val (.int p5), .val (.int kx), .val (.int dl), .val (.int sm), .val (.ref b5), .val (.ref b16), .val (.ref b28), .val (.int xe2), .val (.int xe3b), .val (.int xe3), .val (.ref b59), .unset, .unset, .unset, .unset, .unset, .unset, .unset, .unset] [(.ref b59)])) _
    refine XS.aload Xx64.here hx rfl (hb hby at_178) rfl rfl ?_
    show Steps p.tables e below (T60.setTop (mkF m 180 #[.val (.int p0), .val (.int p1), .val (.int p2), .val (.int p3), .val (.int p4), .val (.int p5), .val (.int kx), .val (.int dl), .val (.int sm), .val (.ref b5), .val (.ref b16), .val (.ref b28), .val (.int xe2), .val (.int xe3b), .val (.int xe3), .val (.ref b59), .unset, .unset, .unset, .unset, .unset, .unset, .unset, .unset] [(.ref b5), (.ref b59)])) _
    refine st65 _ ?_
    show Steps p.tables e below (T65.setTop (mkF m 183 #[.val (.int p0), .val (.int p1), .val (.int p2), .val (.int p3), .val (.int p4), .val (.int p5), .val (.int kx), .val (.int dl), .val (.int sm), .val (.ref b5), .val (.ref b16), .val (.ref b28), .val (.int xe2), .val (.int xe3b), .val (.int xe3), .val (.ref b59), .unset, .unset, .unset, .unset, .unset, .unset, .unset, .unset] [(.int (addV emptyS (f1 (0 : Int32)) (f1 (1 : Int32)) (f1 (2 : Int32)) (f1 (3 : Int32)) (f1 (4 : Int32))))])) _
    refine XS.istore X65.here hx rfl (hb hby at_183) rfl (l' := #[.val (.int p0), .val (.int p1), .val (.int p2), .val (.int p3), .val (.int p4), .val (.int p5), .val (.int kx), .val (.int dl), .val (.int sm), .val (.ref b5), .val (.ref b16), .val (.ref b28), .val (.int xe2), .val (.int xe3b), .val (.int xe3), .val (.ref b59), .val (.int (addV emptyS (f1 (0 : Int32)) (f1 (1 : Int32)) (f1 (2 : Int32)) (f1 (3 : Int32)) (f1 (4 : Int32)))), .unset, .unset, .unset, .unset, .unset, .unset, .unset]) rfl ?_
    show Steps p.tables e below (T65.setTop (mkF m 185 #[.val (.int p0), .val (.int p1), .val (.int p2), .val (.int p3), .val (.int p4), .val (.int p5), .val (.int kx), .val (.int dl), .val (.int sm), .val (.ref b5), .val (.ref b16), .val (.ref b28), .val (.int xe2), .val (.int xe3b), .val (.int xe3), .val (.ref b59), .val (.int (addV emptyS (f1 (0 : Int32)) (f1 (1 : Int32)) (f1 (2 : Int32)) (f1 (3 : Int32)) (f1 (4 : Int32)))), .unset, .unset, .unset, .unset, .unset, .unset, .unset] [])) _
    refine XS.aload Xx67.here hx rfl (hb hby at_185) rfl rfl ?_
    show Steps p.tables e below (T65.setTop (mkF m 187 #[.val (.int p0), .val (.int p1), .val (.int p2), .val (.int p3), .val (.int p4), .val (.int p5), .val (.int kx), .val (.int dl), .val (.int sm), .val (.ref b5), .val (.ref b16), .val (.ref b28), .val (.int xe2), .val (.int xe3b), .val (.int xe3), .val (.ref b59), .val (.int (addV emptyS (f1 (0 : Int32)) (f1 (1 : Int32)) (f1 (2 : Int32)) (f1 (3 : Int32)) (f1 (4 : Int32)))), .unset, .unset, .unset, .unset, .unset, .unset, .unset] [(.ref b59)])) _
    refine XS.aload Xx67.here hx rfl (hb hby at_187) rfl rfl ?_
    show Steps p.tables e below (T65.setTop (mkF m 189 #[.val (.int p0), .val (.int p1), .val (.int p2), .val (.int p3), .val (.int p4), .val (.int p5), .val (.int kx), .val (.int dl), .val (.int sm), .val (.ref b5), .val (.ref b16), .val (.ref b28), .val (.int xe2), .val (.int xe3b), .val (.int xe3), .val (.ref b59), .val (.int (addV emptyS (f1 (0 : Int32)) (f1 (1 : Int32)) (f1 (2 : Int32)) (f1 (3 : Int32)) (f1 (4 : Int32)))), .unset, .unset, .unset, .unset, .unset, .unset, .unset] [(.ref b16), (.ref b59)])) _
    refine st68 _ ?_
    show Steps p.tables e below (T68.setTop (mkF m 192 #[.val (.int p0), .val (.int p1), .val (.int p2), .val (.int p3), .val (.int p4), .val (.int p5), .val (.int kx), .val (.int dl), .val (.int sm), .val (.ref b5), .val (.ref b16), .val (.ref b28), .val (.int xe2), .val (.int xe3b), .val (.int xe3), .val (.ref b59), .val (.int (addV emptyS (f1 (0 : Int32)) (f1 (1 : Int32)) (f1 (2 : Int32)) (f1 (3 : Int32)) (f1 (4 : Int32)))), .unset, .unset, .unset, .unset, .unset, .unset, .unset] [(.int (addV s1 (f2 (0 : Int32)) (f2 (1 : Int32)) (f2 (2 : Int32)) (f2 (3 : Int32)) (f2 (4 : Int32))))])) _
    refine XS.istore X68.here hx rfl (hb hby at_192) rfl (l' := #[.val (.int p0), .val (.int p1), .val (.int p2), .val (.int p3), .val (.int p4), .val (.int p5), .val (.int kx), .val (.int dl), .val (.int sm), .val (.ref b5), .val (.ref b16), .val (.ref b28), .val (.int xe2), .val (.int xe3b), .val (.int xe3), .val (.ref b59), .val (.int (addV emptyS (f1 (0 : Int32)) (f1 (1 : Int32)) (f1 (2 : Int32)) (f1 (3 : Int32)) (f1 (4 : Int32)))), .val (.int (addV s1 (f2 (0 : Int32)) (f2 (1 : Int32)) (f2 (2 : Int32)) (f2 (3 : Int32)) (f2 (4 : Int32)))), .unset, .unset, .unset, .unset, .unset, .unset]) rfl ?_
    show Steps p.tables e below (T68.setTop (mkF m 194 #[.val (.int p0), .val (.int p1), .val (.int p2), .val (.int p3), .val (.int p4), .val (.int p5), .val (.int kx), .val (.int dl), .val (.int sm), .val (.ref b5), .val (.ref b16), .val (.ref b28), .val (.int xe2), .val (.int xe3b), .val (.int xe3), .val (.ref b59), .val (.int (addV emptyS (f1 (0 : Int32)) (f1 (1 : Int32)) (f1 (2 : Int32)) (f1 (3 : Int32)) (f1 (4 : Int32)))), .val (.int (addV s1 (f2 (0 : Int32)) (f2 (1 : Int32)) (f2 (2 : Int32)) (f2 (3 : Int32)) (f2 (4 : Int32)))), .unset, .unset, .unset, .unset, .unset, .unset] [])) _
    refine XS.aload Xx70.here hx rfl (hb hby at_194) rfl rfl ?_
    show Steps p.tables e below (T68.setTop (mkF m 196 #[.val (.int p0), .val (.int p1), .val (.int p2), .val (.int p3), .val (.int p4), .val (.int p5), .val (.int kx), .val (.int dl), .val (.int sm), .val (.ref b5), .val (.ref b16), .val (.ref b28), .val (.int xe2), .val (.int xe3b), .val (.int xe3), .val (.ref b59), .val (.int (addV emptyS (f1 (0 : Int32)) (f1 (1 : Int32)) (f1 (2 : Int32)) (f1 (3 : Int32)) (f1 (4 : Int32)))), .val (.int (addV s1 (f2 (0 : Int32)) (f2 (1 : Int32)) (f2 (2 : Int32)) (f2 (3 : Int32)) (f2 (4 : Int32)))), .unset, .unset, .unset, .unset, .unset, .unset] [(.ref b59)])) _
    refine XS.aload Xx70.here hx rfl (hb hby at_196) rfl rfl ?_
    show Steps p.tables e below (T68.setTop (mkF m 198 #[.val (.int p0), .val (.int p1), .val (.int p2), .val (.int p3), .val (.int p4), .val (.int p5), .val (.int kx), .val (.int dl), .val (.int sm), .val (.ref b5), .val (.ref b16), .val (.ref b28), .val (.int xe2), .val (.int xe3b), .val (.int xe3), .val (.ref b59), .val (.int (addV emptyS (f1 (0 : Int32)) (f1 (1 : Int32)) (f1 (2 : Int32)) (f1 (3 : Int32)) (f1 (4 : Int32)))), .val (.int (addV s1 (f2 (0 : Int32)) (f2 (1 : Int32)) (f2 (2 : Int32)) (f2 (3 : Int32)) (f2 (4 : Int32)))), .unset, .unset, .unset, .unset, .unset, .unset] [(.ref b28), (.ref b59)])) _
    refine st71 _ ?_
    show Steps p.tables e below (T71.setTop (mkF m 201 #[.val (.int p0), .val (.int p1), .val (.int p2), .val (.int p3), .val (.int p4), .val (.int p5), .val (.int kx), .val (.int dl), .val (.int sm), .val (.ref b5), .val (.ref b16), .val (.ref b28), .val (.int xe2), .val (.int xe3b), .val (.int xe3), .val (.ref b59), .val (.int (addV emptyS (f1 (0 : Int32)) (f1 (1 : Int32)) (f1 (2 : Int32)) (f1 (3 : Int32)) (f1 (4 : Int32)))), .val (.int (addV s1 (f2 (0 : Int32)) (f2 (1 : Int32)) (f2 (2 : Int32)) (f2 (3 : Int32)) (f2 (4 : Int32)))), .unset, .unset, .unset, .unset, .unset, .unset] [(.int (findV s2 (f3 (0 : Int32)) (f3 (1 : Int32)) (f3 (2 : Int32)) (f3 (3 : Int32)) (f3 (4 : Int32))))])) _
    refine XS.istore X71.here hx rfl (hb hby at_201) rfl (l' := #[.val (.int p0), .val (.int p1), .val (.int p2), .val (.int p3), .val (.int p4), .val (.int p5), .val (.int kx), .val (.int dl), .val (.int sm), .val (.ref b5), .val (.ref b16), .val (.ref b28), .val (.int xe2), .val (.int xe3b), .val (.int xe3), .val (.ref b59), .val (.int (addV emptyS (f1 (0 : Int32)) (f1 (1 : Int32)) (f1 (2 : Int32)) (f1 (3 : Int32)) (f1 (4 : Int32)))), .val (.int (addV s1 (f2 (0 : Int32)) (f2 (1 : Int32)) (f2 (2 : Int32)) (f2 (3 : Int32)) (f2 (4 : Int32)))), .val (.int (findV s2 (f3 (0 : Int32)) (f3 (1 : Int32)) (f3 (2 : Int32)) (f3 (3 : Int32)) (f3 (4 : Int32)))), .unset, .unset, .unset, .unset, .unset]) rfl ?_
    show Steps p.tables e below (T71.setTop (mkF m 203 #[.val (.int p0), .val (.int p1), .val (.int p2), .val (.int p3), .val (.int p4), .val (.int p5), .val (.int kx), .val (.int dl), .val (.int sm), .val (.ref b5), .val (.ref b16), .val (.ref b28), .val (.int xe2), .val (.int xe3b), .val (.int xe3), .val (.ref b59), .val (.int (addV emptyS (f1 (0 : Int32)) (f1 (1 : Int32)) (f1 (2 : Int32)) (f1 (3 : Int32)) (f1 (4 : Int32)))), .val (.int (addV s1 (f2 (0 : Int32)) (f2 (1 : Int32)) (f2 (2 : Int32)) (f2 (3 : Int32)) (f2 (4 : Int32)))), .val (.int (findV s2 (f3 (0 : Int32)) (f3 (1 : Int32)) (f3 (2 : Int32)) (f3 (3 : Int32)) (f3 (4 : Int32)))), .unset, .unset, .unset, .unset, .unset] [])) _
    refine XS.aload Xx73.here hx rfl (hb hby at_203) rfl rfl ?_
    show Steps p.tables e below (T71.setTop (mkF m 205 #[.val (.int p0), .val (.int p1), .val (.int p2), .val (.int p3), .val (.int p4), .val (.int p5), .val (.int kx), .val (.int dl), .val (.int sm), .val (.ref b5), .val (.ref b16), .val (.ref b28), .val (.int xe2), .val (.int xe3b), .val (.int xe3), .val (.ref b59), .val (.int (addV emptyS (f1 (0 : Int32)) (f1 (1 : Int32)) (f1 (2 : Int32)) (f1 (3 : Int32)) (f1 (4 : Int32)))), .val (.int (addV s1 (f2 (0 : Int32)) (f2 (1 : Int32)) (f2 (2 : Int32)) (f2 (3 : Int32)) (f2 (4 : Int32)))), .val (.int (findV s2 (f3 (0 : Int32)) (f3 (1 : Int32)) (f3 (2 : Int32)) (f3 (3 : Int32)) (f3 (4 : Int32)))), .unset, .unset, .unset, .unset, .unset] [(.ref b59)])) _
    refine XS.aload Xx73.here hx rfl (hb hby at_205) rfl rfl ?_
    show Steps p.tables e below (T71.setTop (mkF m 207 #[.val (.int p0), .val (.int p1), .val (.int p2), .val (.int p3), .val (.int p4), .val (.int p5), .val (.int kx), .val (.int dl), .val (.int sm), .val (.ref b5), .val (.ref b16), .val (.ref b28), .val (.int xe2), .val (.int xe3b), .val (.int xe3), .val (.ref b59), .val (.int (addV emptyS (f1 (0 : Int32)) (f1 (1 : Int32)) (f1 (2 : Int32)) (f1 (3 : Int32)) (f1 (4 : Int32)))), .val (.int (addV s1 (f2 (0 : Int32)) (f2 (1 : Int32)) (f2 (2 : Int32)) (f2 (3 : Int32)) (f2 (4 : Int32)))), .val (.int (findV s2 (f3 (0 : Int32)) (f3 (1 : Int32)) (f3 (2 : Int32)) (f3 (3 : Int32)) (f3 (4 : Int32)))), .unset, .unset, .unset, .unset, .unset] [(.ref b28), (.ref b59)])) _
    refine st74 _ ?_
    show Steps p.tables e below (T74.setTop (mkF m 210 #[.val (.int p0), .val (.int p1), .val (.int p2), .val (.int p3), .val (.int p4), .val (.int p5), .val (.int kx), .val (.int dl), .val (.int sm), .val (.ref b5), .val (.ref b16), .val (.ref b28), .val (.int xe2), .val (.int xe3b), .val (.int xe3), .val (.ref b59), .val (.int (addV emptyS (f1 (0 : Int32)) (f1 (1 : Int32)) (f1 (2 : Int32)) (f1 (3 : Int32)) (f1 (4 : Int32)))), .val (.int (addV s1 (f2 (0 : Int32)) (f2 (1 : Int32)) (f2 (2 : Int32)) (f2 (3 : Int32)) (f2 (4 : Int32)))), .val (.int (findV s2 (f3 (0 : Int32)) (f3 (1 : Int32)) (f3 (2 : Int32)) (f3 (3 : Int32)) (f3 (4 : Int32)))), .unset, .unset, .unset, .unset, .unset] [(.int (addV s2 (f3 (0 : Int32)) (f3 (1 : Int32)) (f3 (2 : Int32)) (f3 (3 : Int32)) (f3 (4 : Int32))))])) _
    refine XS.istore X74.here hx rfl (hb hby at_210) rfl (l' := #[.val (.int p0), .val (.int p1), .val (.int p2), .val (.int p3), .val (.int p4), .val (.int p5), .val (.int kx), .val (.int dl), .val (.int sm), .val (.ref b5), .val (.ref b16), .val (.ref b28), .val (.int xe2), .val (.int xe3b), .val (.int xe3), .val (.ref b59), .val (.int (addV emptyS (f1 (0 : Int32)) (f1 (1 : Int32)) (f1 (2 : Int32)) (f1 (3 : Int32)) (f1 (4 : Int32)))), .val (.int (addV s1 (f2 (0 : Int32)) (f2 (1 : Int32)) (f2 (2 : Int32)) (f2 (3 : Int32)) (f2 (4 : Int32)))), .val (.int (findV s2 (f3 (0 : Int32)) (f3 (1 : Int32)) (f3 (2 : Int32)) (f3 (3 : Int32)) (f3 (4 : Int32)))), .val (.int (addV s2 (f3 (0 : Int32)) (f3 (1 : Int32)) (f3 (2 : Int32)) (f3 (3 : Int32)) (f3 (4 : Int32)))), .unset, .unset, .unset, .unset]) rfl ?_
    show Steps p.tables e below (T74.setTop (mkF m 212 #[.val (.int p0), .val (.int p1), .val (.int p2), .val (.int p3), .val (.int p4), .val (.int p5), .val (.int kx), .val (.int dl), .val (.int sm), .val (.ref b5), .val (.ref b16), .val (.ref b28), .val (.int xe2), .val (.int xe3b), .val (.int xe3), .val (.ref b59), .val (.int (addV emptyS (f1 (0 : Int32)) (f1 (1 : Int32)) (f1 (2 : Int32)) (f1 (3 : Int32)) (f1 (4 : Int32)))), .val (.int (addV s1 (f2 (0 : Int32)) (f2 (1 : Int32)) (f2 (2 : Int32)) (f2 (3 : Int32)) (f2 (4 : Int32)))), .val (.int (findV s2 (f3 (0 : Int32)) (f3 (1 : Int32)) (f3 (2 : Int32)) (f3 (3 : Int32)) (f3 (4 : Int32)))), .val (.int (addV s2 (f3 (0 : Int32)) (f3 (1 : Int32)) (f3 (2 : Int32)) (f3 (3 : Int32)) (f3 (4 : Int32)))), .unset, .unset, .unset, .unset] [])) _
    refine XS.aload Xx75.here hx rfl (hb hby at_212) rfl rfl ?_
    show Steps p.tables e below (T74.setTop (mkF m 214 #[.val (.int p0), .val (.int p1), .val (.int p2), .val (.int p3), .val (.int p4), .val (.int p5), .val (.int kx), .val (.int dl), .val (.int sm), .val (.ref b5), .val (.ref b16), .val (.ref b28), .val (.int xe2), .val (.int xe3b), .val (.int xe3), .val (.ref b59), .val (.int (addV emptyS (f1 (0 : Int32)) (f1 (1 : Int32)) (f1 (2 : Int32)) (f1 (3 : Int32)) (f1 (4 : Int32)))), .val (.int (addV s1 (f2 (0 : Int32)) (f2 (1 : Int32)) (f2 (2 : Int32)) (f2 (3 : Int32)) (f2 (4 : Int32)))), .val (.int (findV s2 (f3 (0 : Int32)) (f3 (1 : Int32)) (f3 (2 : Int32)) (f3 (3 : Int32)) (f3 (4 : Int32)))), .val (.int (addV s2 (f3 (0 : Int32)) (f3 (1 : Int32)) (f3 (2 : Int32)) (f3 (3 : Int32)) (f3 (4 : Int32)))), .unset, .unset, .unset, .unset] [(.ref b59)])) _
    refine XS.aload Xx75.here hx rfl (hb hby at_214) rfl rfl ?_
    show Steps p.tables e below (T74.setTop (mkF m 216 #[.val (.int p0), .val (.int p1), .val (.int p2), .val (.int p3), .val (.int p4), .val (.int p5), .val (.int kx), .val (.int dl), .val (.int sm), .val (.ref b5), .val (.ref b16), .val (.ref b28), .val (.int xe2), .val (.int xe3b), .val (.int xe3), .val (.ref b59), .val (.int (addV emptyS (f1 (0 : Int32)) (f1 (1 : Int32)) (f1 (2 : Int32)) (f1 (3 : Int32)) (f1 (4 : Int32)))), .val (.int (addV s1 (f2 (0 : Int32)) (f2 (1 : Int32)) (f2 (2 : Int32)) (f2 (3 : Int32)) (f2 (4 : Int32)))), .val (.int (findV s2 (f3 (0 : Int32)) (f3 (1 : Int32)) (f3 (2 : Int32)) (f3 (3 : Int32)) (f3 (4 : Int32)))), .val (.int (addV s2 (f3 (0 : Int32)) (f3 (1 : Int32)) (f3 (2 : Int32)) (f3 (3 : Int32)) (f3 (4 : Int32)))), .unset, .unset, .unset, .unset] [(.ref b5), (.ref b59)])) _
    refine st76 _ ?_
    show Steps p.tables e below (T76.setTop (mkF m 219 #[.val (.int p0), .val (.int p1), .val (.int p2), .val (.int p3), .val (.int p4), .val (.int p5), .val (.int kx), .val (.int dl), .val (.int sm), .val (.ref b5), .val (.ref b16), .val (.ref b28), .val (.int xe2), .val (.int xe3b), .val (.int xe3), .val (.ref b59), .val (.int (addV emptyS (f1 (0 : Int32)) (f1 (1 : Int32)) (f1 (2 : Int32)) (f1 (3 : Int32)) (f1 (4 : Int32)))), .val (.int (addV s1 (f2 (0 : Int32)) (f2 (1 : Int32)) (f2 (2 : Int32)) (f2 (3 : Int32)) (f2 (4 : Int32)))), .val (.int (findV s2 (f3 (0 : Int32)) (f3 (1 : Int32)) (f3 (2 : Int32)) (f3 (3 : Int32)) (f3 (4 : Int32)))), .val (.int (addV s2 (f3 (0 : Int32)) (f3 (1 : Int32)) (f3 (2 : Int32)) (f3 (3 : Int32)) (f3 (4 : Int32)))), .unset, .unset, .unset, .unset] [(.int (addV s3 (f1 (0 : Int32)) (f1 (1 : Int32)) (f1 (2 : Int32)) (f1 (3 : Int32)) (f1 (4 : Int32))))])) _
    refine XS.istore X76.here hx rfl (hb hby at_219) rfl (l' := #[.val (.int p0), .val (.int p1), .val (.int p2), .val (.int p3), .val (.int p4), .val (.int p5), .val (.int kx), .val (.int dl), .val (.int sm), .val (.ref b5), .val (.ref b16), .val (.ref b28), .val (.int xe2), .val (.int xe3b), .val (.int xe3), .val (.ref b59), .val (.int (addV emptyS (f1 (0 : Int32)) (f1 (1 : Int32)) (f1 (2 : Int32)) (f1 (3 : Int32)) (f1 (4 : Int32)))), .val (.int (addV s1 (f2 (0 : Int32)) (f2 (1 : Int32)) (f2 (2 : Int32)) (f2 (3 : Int32)) (f2 (4 : Int32)))), .val (.int (findV s2 (f3 (0 : Int32)) (f3 (1 : Int32)) (f3 (2 : Int32)) (f3 (3 : Int32)) (f3 (4 : Int32)))), .val (.int (addV s2 (f3 (0 : Int32)) (f3 (1 : Int32)) (f3 (2 : Int32)) (f3 (3 : Int32)) (f3 (4 : Int32)))), .val (.int (addV s3 (f1 (0 : Int32)) (f1 (1 : Int32)) (f1 (2 : Int32)) (f1 (3 : Int32)) (f1 (4 : Int32)))), .unset, .unset, .unset]) rfl ?_
    show Steps p.tables e below (T76.setTop (mkF m 221 #[.val (.int p0), .val (.int p1), .val (.int p2), .val (.int p3), .val (.int p4), .val (.int p5), .val (.int kx), .val (.int dl), .val (.int sm), .val (.ref b5), .val (.ref b16), .val (.ref b28), .val (.int xe2), .val (.int xe3b), .val (.int xe3), .val (.ref b59), .val (.int (addV emptyS (f1 (0 : Int32)) (f1 (1 : Int32)) (f1 (2 : Int32)) (f1 (3 : Int32)) (f1 (4 : Int32)))), .val (.int (addV s1 (f2 (0 : Int32)) (f2 (1 : Int32)) (f2 (2 : Int32)) (f2 (3 : Int32)) (f2 (4 : Int32)))), .val (.int (findV s2 (f3 (0 : Int32)) (f3 (1 : Int32)) (f3 (2 : Int32)) (f3 (3 : Int32)) (f3 (4 : Int32)))), .val (.int (addV s2 (f3 (0 : Int32)) (f3 (1 : Int32)) (f3 (2 : Int32)) (f3 (3 : Int32)) (f3 (4 : Int32)))), .val (.int (addV s3 (f1 (0 : Int32)) (f1 (1 : Int32)) (f1 (2 : Int32)) (f1 (3 : Int32)) (f1 (4 : Int32)))), .unset, .unset, .unset] [])) _
    refine XS.aload Xx78.here hx rfl (hb hby at_221) rfl rfl ?_
    show Steps p.tables e below (T76.setTop (mkF m 223 #[.val (.int p0), .val (.int p1), .val (.int p2), .val (.int p3), .val (.int p4), .val (.int p5), .val (.int kx), .val (.int dl), .val (.int sm), .val (.ref b5), .val (.ref b16), .val (.ref b28), .val (.int xe2), .val (.int xe3b), .val (.int xe3), .val (.ref b59), .val (.int (addV emptyS (f1 (0 : Int32)) (f1 (1 : Int32)) (f1 (2 : Int32)) (f1 (3 : Int32)) (f1 (4 : Int32)))), .val (.int (addV s1 (f2 (0 : Int32)) (f2 (1 : Int32)) (f2 (2 : Int32)) (f2 (3 : Int32)) (f2 (4 : Int32)))), .val (.int (findV s2 (f3 (0 : Int32)) (f3 (1 : Int32)) (f3 (2 : Int32)) (f3 (3 : Int32)) (f3 (4 : Int32)))), .val (.int (addV s2 (f3 (0 : Int32)) (f3 (1 : Int32)) (f3 (2 : Int32)) (f3 (3 : Int32)) (f3 (4 : Int32)))), .val (.int (addV s3 (f1 (0 : Int32)) (f1 (1 : Int32)) (f1 (2 : Int32)) (f1 (3 : Int32)) (f1 (4 : Int32)))), .unset, .unset, .unset] [(.ref b59)])) _
    refine XS.aload Xx78.here hx rfl (hb hby at_223) rfl rfl ?_
    show Steps p.tables e below (T76.setTop (mkF m 225 #[.val (.int p0), .val (.int p1), .val (.int p2), .val (.int p3), .val (.int p4), .val (.int p5), .val (.int kx), .val (.int dl), .val (.int sm), .val (.ref b5), .val (.ref b16), .val (.ref b28), .val (.int xe2), .val (.int xe3b), .val (.int xe3), .val (.ref b59), .val (.int (addV emptyS (f1 (0 : Int32)) (f1 (1 : Int32)) (f1 (2 : Int32)) (f1 (3 : Int32)) (f1 (4 : Int32)))), .val (.int (addV s1 (f2 (0 : Int32)) (f2 (1 : Int32)) (f2 (2 : Int32)) (f2 (3 : Int32)) (f2 (4 : Int32)))), .val (.int (findV s2 (f3 (0 : Int32)) (f3 (1 : Int32)) (f3 (2 : Int32)) (f3 (3 : Int32)) (f3 (4 : Int32)))), .val (.int (addV s2 (f3 (0 : Int32)) (f3 (1 : Int32)) (f3 (2 : Int32)) (f3 (3 : Int32)) (f3 (4 : Int32)))), .val (.int (addV s3 (f1 (0 : Int32)) (f1 (1 : Int32)) (f1 (2 : Int32)) (f1 (3 : Int32)) (f1 (4 : Int32)))), .unset, .unset, .unset] [(.ref b5), (.ref b59)])) _
    refine st79 _ ?_
    show Steps p.tables e below (T79.setTop (mkF m 228 #[.val (.int p0), .val (.int p1), .val (.int p2), .val (.int p3), .val (.int p4), .val (.int p5), .val (.int kx), .val (.int dl), .val (.int sm), .val (.ref b5), .val (.ref b16), .val (.ref b28), .val (.int xe2), .val (.int xe3b), .val (.int xe3), .val (.ref b59), .val (.int (addV emptyS (f1 (0 : Int32)) (f1 (1 : Int32)) (f1 (2 : Int32)) (f1 (3 : Int32)) (f1 (4 : Int32)))), .val (.int (addV s1 (f2 (0 : Int32)) (f2 (1 : Int32)) (f2 (2 : Int32)) (f2 (3 : Int32)) (f2 (4 : Int32)))), .val (.int (findV s2 (f3 (0 : Int32)) (f3 (1 : Int32)) (f3 (2 : Int32)) (f3 (3 : Int32)) (f3 (4 : Int32)))), .val (.int (addV s2 (f3 (0 : Int32)) (f3 (1 : Int32)) (f3 (2 : Int32)) (f3 (3 : Int32)) (f3 (4 : Int32)))), .val (.int (addV s3 (f1 (0 : Int32)) (f1 (1 : Int32)) (f1 (2 : Int32)) (f1 (3 : Int32)) (f1 (4 : Int32)))), .unset, .unset, .unset] [(.int (findV s4 (f1 (0 : Int32)) (f1 (1 : Int32)) (f1 (2 : Int32)) (f1 (3 : Int32)) (f1 (4 : Int32))))])) _
    refine XS.istore X79.here hx rfl (hb hby at_228) rfl (l' := #[.val (.int p0), .val (.int p1), .val (.int p2), .val (.int p3), .val (.int p4), .val (.int p5), .val (.int kx), .val (.int dl), .val (.int sm), .val (.ref b5), .val (.ref b16), .val (.ref b28), .val (.int xe2), .val (.int xe3b), .val (.int xe3), .val (.ref b59), .val (.int (addV emptyS (f1 (0 : Int32)) (f1 (1 : Int32)) (f1 (2 : Int32)) (f1 (3 : Int32)) (f1 (4 : Int32)))), .val (.int (addV s1 (f2 (0 : Int32)) (f2 (1 : Int32)) (f2 (2 : Int32)) (f2 (3 : Int32)) (f2 (4 : Int32)))), .val (.int (findV s2 (f3 (0 : Int32)) (f3 (1 : Int32)) (f3 (2 : Int32)) (f3 (3 : Int32)) (f3 (4 : Int32)))), .val (.int (addV s2 (f3 (0 : Int32)) (f3 (1 : Int32)) (f3 (2 : Int32)) (f3 (3 : Int32)) (f3 (4 : Int32)))), .val (.int (addV s3 (f1 (0 : Int32)) (f1 (1 : Int32)) (f1 (2 : Int32)) (f1 (3 : Int32)) (f1 (4 : Int32)))), .val (.int (findV s4 (f1 (0 : Int32)) (f1 (1 : Int32)) (f1 (2 : Int32)) (f1 (3 : Int32)) (f1 (4 : Int32)))), .unset, .unset]) rfl ?_
    show Steps p.tables e below (T79.setTop (mkF m 230 #[.val (.int p0), .val (.int p1), .val (.int p2), .val (.int p3), .val (.int p4), .val (.int p5), .val (.int kx), .val (.int dl), .val (.int sm), .val (.ref b5), .val (.ref b16), .val (.ref b28), .val (.int xe2), .val (.int xe3b), .val (.int xe3), .val (.ref b59), .val (.int (addV emptyS (f1 (0 : Int32)) (f1 (1 : Int32)) (f1 (2 : Int32)) (f1 (3 : Int32)) (f1 (4 : Int32)))), .val (.int (addV s1 (f2 (0 : Int32)) (f2 (1 : Int32)) (f2 (2 : Int32)) (f2 (3 : Int32)) (f2 (4 : Int32)))), .val (.int (findV s2 (f3 (0 : Int32)) (f3 (1 : Int32)) (f3 (2 : Int32)) (f3 (3 : Int32)) (f3 (4 : Int32)))), .val (.int (addV s2 (f3 (0 : Int32)) (f3 (1 : Int32)) (f3 (2 : Int32)) (f3 (3 : Int32)) (f3 (4 : Int32)))), .val (.int (addV s3 (f1 (0 : Int32)) (f1 (1 : Int32)) (f1 (2 : Int32)) (f1 (3 : Int32)) (f1 (4 : Int32)))), .val (.int (findV s4 (f1 (0 : Int32)) (f1 (1 : Int32)) (f1 (2 : Int32)) (f1 (3 : Int32)) (f1 (4 : Int32)))), .unset, .unset] [])) _
    refine XS.aload Xx81.here hx rfl (hb hby at_230) rfl rfl ?_
    show Steps p.tables e below (T79.setTop (mkF m 232 #[.val (.int p0), .val (.int p1), .val (.int p2), .val (.int p3), .val (.int p4), .val (.int p5), .val (.int kx), .val (.int dl), .val (.int sm), .val (.ref b5), .val (.ref b16), .val (.ref b28), .val (.int xe2), .val (.int xe3b), .val (.int xe3), .val (.ref b59), .val (.int (addV emptyS (f1 (0 : Int32)) (f1 (1 : Int32)) (f1 (2 : Int32)) (f1 (3 : Int32)) (f1 (4 : Int32)))), .val (.int (addV s1 (f2 (0 : Int32)) (f2 (1 : Int32)) (f2 (2 : Int32)) (f2 (3 : Int32)) (f2 (4 : Int32)))), .val (.int (findV s2 (f3 (0 : Int32)) (f3 (1 : Int32)) (f3 (2 : Int32)) (f3 (3 : Int32)) (f3 (4 : Int32)))), .val (.int (addV s2 (f3 (0 : Int32)) (f3 (1 : Int32)) (f3 (2 : Int32)) (f3 (3 : Int32)) (f3 (4 : Int32)))), .val (.int (addV s3 (f1 (0 : Int32)) (f1 (1 : Int32)) (f1 (2 : Int32)) (f1 (3 : Int32)) (f1 (4 : Int32)))), .val (.int (findV s4 (f1 (0 : Int32)) (f1 (1 : Int32)) (f1 (2 : Int32)) (f1 (3 : Int32)) (f1 (4 : Int32)))), .unset, .unset] [(.ref b59)])) _
    refine XS.aload Xx81.here hx rfl (hb hby at_232) rfl rfl ?_
    show Steps p.tables e below (T79.setTop (mkF m 234 #[.val (.int p0), .val (.int p1), .val (.int p2), .val (.int p3), .val (.int p4), .val (.int p5), .val (.int kx), .val (.int dl), .val (.int sm), .val (.ref b5), .val (.ref b16), .val (.ref b28), .val (.int xe2), .val (.int xe3b), .val (.int xe3), .val (.ref b59), .val (.int (addV emptyS (f1 (0 : Int32)) (f1 (1 : Int32)) (f1 (2 : Int32)) (f1 (3 : Int32)) (f1 (4 : Int32)))), .val (.int (addV s1 (f2 (0 : Int32)) (f2 (1 : Int32)) (f2 (2 : Int32)) (f2 (3 : Int32)) (f2 (4 : Int32)))), .val (.int (findV s2 (f3 (0 : Int32)) (f3 (1 : Int32)) (f3 (2 : Int32)) (f3 (3 : Int32)) (f3 (4 : Int32)))), .val (.int (addV s2 (f3 (0 : Int32)) (f3 (1 : Int32)) (f3 (2 : Int32)) (f3 (3 : Int32)) (f3 (4 : Int32)))), .val (.int (addV s3 (f1 (0 : Int32)) (f1 (1 : Int32)) (f1 (2 : Int32)) (f1 (3 : Int32)) (f1 (4 : Int32)))), .val (.int (findV s4 (f1 (0 : Int32)) (f1 (1 : Int32)) (f1 (2 : Int32)) (f1 (3 : Int32)) (f1 (4 : Int32)))), .unset, .unset] [(.ref b16), (.ref b59)])) _
    refine st82 _ ?_
    show Steps p.tables e below (T82.setTop (mkF m 237 #[.val (.int p0), .val (.int p1), .val (.int p2), .val (.int p3), .val (.int p4), .val (.int p5), .val (.int kx), .val (.int dl), .val (.int sm), .val (.ref b5), .val (.ref b16), .val (.ref b28), .val (.int xe2), .val (.int xe3b), .val (.int xe3), .val (.ref b59), .val (.int (addV emptyS (f1 (0 : Int32)) (f1 (1 : Int32)) (f1 (2 : Int32)) (f1 (3 : Int32)) (f1 (4 : Int32)))), .val (.int (addV s1 (f2 (0 : Int32)) (f2 (1 : Int32)) (f2 (2 : Int32)) (f2 (3 : Int32)) (f2 (4 : Int32)))), .val (.int (findV s2 (f3 (0 : Int32)) (f3 (1 : Int32)) (f3 (2 : Int32)) (f3 (3 : Int32)) (f3 (4 : Int32)))), .val (.int (addV s2 (f3 (0 : Int32)) (f3 (1 : Int32)) (f3 (2 : Int32)) (f3 (3 : Int32)) (f3 (4 : Int32)))), .val (.int (addV s3 (f1 (0 : Int32)) (f1 (1 : Int32)) (f1 (2 : Int32)) (f1 (3 : Int32)) (f1 (4 : Int32)))), .val (.int (findV s4 (f1 (0 : Int32)) (f1 (1 : Int32)) (f1 (2 : Int32)) (f1 (3 : Int32)) (f1 (4 : Int32)))), .unset, .unset] [(.int (findV s4 (f2 (0 : Int32)) (f2 (1 : Int32)) (f2 (2 : Int32)) (f2 (3 : Int32)) (f2 (4 : Int32))))])) _
    refine XS.istore X82.here hx rfl (hb hby at_237) rfl (l' := #[.val (.int p0), .val (.int p1), .val (.int p2), .val (.int p3), .val (.int p4), .val (.int p5), .val (.int kx), .val (.int dl), .val (.int sm), .val (.ref b5), .val (.ref b16), .val (.ref b28), .val (.int xe2), .val (.int xe3b), .val (.int xe3), .val (.ref b59), .val (.int (addV emptyS (f1 (0 : Int32)) (f1 (1 : Int32)) (f1 (2 : Int32)) (f1 (3 : Int32)) (f1 (4 : Int32)))), .val (.int (addV s1 (f2 (0 : Int32)) (f2 (1 : Int32)) (f2 (2 : Int32)) (f2 (3 : Int32)) (f2 (4 : Int32)))), .val (.int (findV s2 (f3 (0 : Int32)) (f3 (1 : Int32)) (f3 (2 : Int32)) (f3 (3 : Int32)) (f3 (4 : Int32)))), .val (.int (addV s2 (f3 (0 : Int32)) (f3 (1 : Int32)) (f3 (2 : Int32)) (f3 (3 : Int32)) (f3 (4 : Int32)))), .val (.int (addV s3 (f1 (0 : Int32)) (f1 (1 : Int32)) (f1 (2 : Int32)) (f1 (3 : Int32)) (f1 (4 : Int32)))), .val (.int (findV s4 (f1 (0 : Int32)) (f1 (1 : Int32)) (f1 (2 : Int32)) (f1 (3 : Int32)) (f1 (4 : Int32)))), .val (.int (findV s4 (f2 (0 : Int32)) (f2 (1 : Int32)) (f2 (2 : Int32)) (f2 (3 : Int32)) (f2 (4 : Int32)))), .unset]) rfl ?_
    show Steps p.tables e below (T82.setTop (mkF m 239 #[.val (.int p0), .val (.int p1), .val (.int p2), .val (.int p3), .val (.int p4), .val (.int p5), .val (.int kx), .val (.int dl), .val (.int sm), .val (.ref b5), .val (.ref b16), .val (.ref b28), .val (.int xe2), .val (.int xe3b), .val (.int xe3), .val (.ref b59), .val (.int (addV emptyS (f1 (0 : Int32)) (f1 (1 : Int32)) (f1 (2 : Int32)) (f1 (3 : Int32)) (f1 (4 : Int32)))), .val (.int (addV s1 (f2 (0 : Int32)) (f2 (1 : Int32)) (f2 (2 : Int32)) (f2 (3 : Int32)) (f2 (4 : Int32)))), .val (.int (findV s2 (f3 (0 : Int32)) (f3 (1 : Int32)) (f3 (2 : Int32)) (f3 (3 : Int32)) (f3 (4 : Int32)))), .val (.int (addV s2 (f3 (0 : Int32)) (f3 (1 : Int32)) (f3 (2 : Int32)) (f3 (3 : Int32)) (f3 (4 : Int32)))), .val (.int (addV s3 (f1 (0 : Int32)) (f1 (1 : Int32)) (f1 (2 : Int32)) (f1 (3 : Int32)) (f1 (4 : Int32)))), .val (.int (findV s4 (f1 (0 : Int32)) (f1 (1 : Int32)) (f1 (2 : Int32)) (f1 (3 : Int32)) (f1 (4 : Int32)))), .val (.int (findV s4 (f2 (0 : Int32)) (f2 (1 : Int32)) (f2 (2 : Int32)) (f2 (3 : Int32)) (f2 (4 : Int32)))), .unset] [])) _
    refine XS.aload Xx84.here hx rfl (hb hby at_239) rfl rfl ?_
    show Steps p.tables e below (T82.setTop (mkF m 241 #[.val (.int p0), .val (.int p1), .val (.int p2), .val (.int p3), .val (.int p4), .val (.int p5), .val (.int kx), .val (.int dl), .val (.int sm), .val (.ref b5), .val (.ref b16), .val (.ref b28), .val (.int xe2), .val (.int xe3b), .val (.int xe3), .val (.ref b59), .val (.int (addV emptyS (f1 (0 : Int32)) (f1 (1 : Int32)) (f1 (2 : Int32)) (f1 (3 : Int32)) (f1 (4 : Int32)))), .val (.int (addV s1 (f2 (0 : Int32)) (f2 (1 : Int32)) (f2 (2 : Int32)) (f2 (3 : Int32)) (f2 (4 : Int32)))), .val (.int (findV s2 (f3 (0 : Int32)) (f3 (1 : Int32)) (f3 (2 : Int32)) (f3 (3 : Int32)) (f3 (4 : Int32)))), .val (.int (addV s2 (f3 (0 : Int32)) (f3 (1 : Int32)) (f3 (2 : Int32)) (f3 (3 : Int32)) (f3 (4 : Int32)))), .val (.int (addV s3 (f1 (0 : Int32)) (f1 (1 : Int32)) (f1 (2 : Int32)) (f1 (3 : Int32)) (f1 (4 : Int32)))), .val (.int (findV s4 (f1 (0 : Int32)) (f1 (1 : Int32)) (f1 (2 : Int32)) (f1 (3 : Int32)) (f1 (4 : Int32)))), .val (.int (findV s4 (f2 (0 : Int32)) (f2 (1 : Int32)) (f2 (2 : Int32)) (f2 (3 : Int32)) (f2 (4 : Int32)))), .unset] [(.ref b59)])) _
    refine XS.aload Xx84.here hx rfl (hb hby at_241) rfl rfl ?_
    show Steps p.tables e below (T82.setTop (mkF m 243 #[.val (.int p0), .val (.int p1), .val (.int p2), .val (.int p3), .val (.int p4), .val (.int p5), .val (.int kx), .val (.int dl), .val (.int sm), .val (.ref b5), .val (.ref b16), .val (.ref b28), .val (.int xe2), .val (.int xe3b), .val (.int xe3), .val (.ref b59), .val (.int (addV emptyS (f1 (0 : Int32)) (f1 (1 : Int32)) (f1 (2 : Int32)) (f1 (3 : Int32)) (f1 (4 : Int32)))), .val (.int (addV s1 (f2 (0 : Int32)) (f2 (1 : Int32)) (f2 (2 : Int32)) (f2 (3 : Int32)) (f2 (4 : Int32)))), .val (.int (findV s2 (f3 (0 : Int32)) (f3 (1 : Int32)) (f3 (2 : Int32)) (f3 (3 : Int32)) (f3 (4 : Int32)))), .val (.int (addV s2 (f3 (0 : Int32)) (f3 (1 : Int32)) (f3 (2 : Int32)) (f3 (3 : Int32)) (f3 (4 : Int32)))), .val (.int (addV s3 (f1 (0 : Int32)) (f1 (1 : Int32)) (f1 (2 : Int32)) (f1 (3 : Int32)) (f1 (4 : Int32)))), .val (.int (findV s4 (f1 (0 : Int32)) (f1 (1 : Int32)) (f1 (2 : Int32)) (f1 (3 : Int32)) (f1 (4 : Int32)))), .val (.int (findV s4 (f2 (0 : Int32)) (f2 (1 : Int32)) (f2 (2 : Int32)) (f2 (3 : Int32)) (f2 (4 : Int32)))), .unset] [(.ref b28), (.ref b59)])) _
    refine st85 _ ?_
    show Steps p.tables e below (T85.setTop (mkF m 246 #[.val (.int p0), .val (.int p1), .val (.int p2), .val (.int p3), .val (.int p4), .val (.int p5), .val (.int kx), .val (.int dl), .val (.int sm), .val (.ref b5), .val (.ref b16), .val (.ref b28), .val (.int xe2), .val (.int xe3b), .val (.int xe3), .val (.ref b59), .val (.int (addV emptyS (f1 (0 : Int32)) (f1 (1 : Int32)) (f1 (2 : Int32)) (f1 (3 : Int32)) (f1 (4 : Int32)))), .val (.int (addV s1 (f2 (0 : Int32)) (f2 (1 : Int32)) (f2 (2 : Int32)) (f2 (3 : Int32)) (f2 (4 : Int32)))), .val (.int (findV s2 (f3 (0 : Int32)) (f3 (1 : Int32)) (f3 (2 : Int32)) (f3 (3 : Int32)) (f3 (4 : Int32)))), .val (.int (addV s2 (f3 (0 : Int32)) (f3 (1 : Int32)) (f3 (2 : Int32)) (f3 (3 : Int32)) (f3 (4 : Int32)))), .val (.int (addV s3 (f1 (0 : Int32)) (f1 (1 : Int32)) (f1 (2 : Int32)) (f1 (3 : Int32)) (f1 (4 : Int32)))), .val (.int (findV s4 (f1 (0 : Int32)) (f1 (1 : Int32)) (f1 (2 : Int32)) (f1 (3 : Int32)) (f1 (4 : Int32)))), .val (.int (findV s4 (f2 (0 : Int32)) (f2 (1 : Int32)) (f2 (2 : Int32)) (f2 (3 : Int32)) (f2 (4 : Int32)))), .unset] [(.int (findV s4 (f3 (0 : Int32)) (f3 (1 : Int32)) (f3 (2 : Int32)) (f3 (3 : Int32)) (f3 (4 : Int32))))])) _
    refine XS.istore X85.here hx rfl (hb hby at_246) rfl (l' := #[.val (.int p0), .val (.int p1), .val (.int p2), .val (.int p3), .val (.int p4), .val (.int p5), .val (.int kx), .val (.int dl), .val (.int sm), .val (.ref b5), .val (.ref b16), .val (.ref b28), .val (.int xe2), .val (.int xe3b), .val (.int xe3), .val (.ref b59), .val (.int (addV emptyS (f1 (0 : Int32)) (f1 (1 : Int32)) (f1 (2 : Int32)) (f1 (3 : Int32)) (f1 (4 : Int32)))), .val (.int (addV s1 (f2 (0 : Int32)) (f2 (1 : Int32)) (f2 (2 : Int32)) (f2 (3 : Int32)) (f2 (4 : Int32)))), .val (.int (findV s2 (f3 (0 : Int32)) (f3 (1 : Int32)) (f3 (2 : Int32)) (f3 (3 : Int32)) (f3 (4 : Int32)))), .val (.int (addV s2 (f3 (0 : Int32)) (f3 (1 : Int32)) (f3 (2 : Int32)) (f3 (3 : Int32)) (f3 (4 : Int32)))), .val (.int (addV s3 (f1 (0 : Int32)) (f1 (1 : Int32)) (f1 (2 : Int32)) (f1 (3 : Int32)) (f1 (4 : Int32)))), .val (.int (findV s4 (f1 (0 : Int32)) (f1 (1 : Int32)) (f1 (2 : Int32)) (f1 (3 : Int32)) (f1 (4 : Int32)))), .val (.int (findV s4 (f2 (0 : Int32)) (f2 (1 : Int32)) (f2 (2 : Int32)) (f2 (3 : Int32)) (f2 (4 : Int32)))), .val (.int (findV s4 (f3 (0 : Int32)) (f3 (1 : Int32)) (f3 (2 : Int32)) (f3 (3 : Int32)) (f3 (4 : Int32))))]) rfl ?_
    show Steps p.tables e below (T85.setTop (mkF m 248 #[.val (.int p0), .val (.int p1), .val (.int p2), .val (.int p3), .val (.int p4), .val (.int p5), .val (.int kx), .val (.int dl), .val (.int sm), .val (.ref b5), .val (.ref b16), .val (.ref b28), .val (.int xe2), .val (.int xe3b), .val (.int xe3), .val (.ref b59), .val (.int (addV emptyS (f1 (0 : Int32)) (f1 (1 : Int32)) (f1 (2 : Int32)) (f1 (3 : Int32)) (f1 (4 : Int32)))), .val (.int (addV s1 (f2 (0 : Int32)) (f2 (1 : Int32)) (f2 (2 : Int32)) (f2 (3 : Int32)) (f2 (4 : Int32)))), .val (.int (findV s2 (f3 (0 : Int32)) (f3 (1 : Int32)) (f3 (2 : Int32)) (f3 (3 : Int32)) (f3 (4 : Int32)))), .val (.int (addV s2 (f3 (0 : Int32)) (f3 (1 : Int32)) (f3 (2 : Int32)) (f3 (3 : Int32)) (f3 (4 : Int32)))), .val (.int (addV s3 (f1 (0 : Int32)) (f1 (1 : Int32)) (f1 (2 : Int32)) (f1 (3 : Int32)) (f1 (4 : Int32)))), .val (.int (findV s4 (f1 (0 : Int32)) (f1 (1 : Int32)) (f1 (2 : Int32)) (f1 (3 : Int32)) (f1 (4 : Int32)))), .val (.int (findV s4 (f2 (0 : Int32)) (f2 (1 : Int32)) (f2 (2 : Int32)) (f2 (3 : Int32)) (f2 (4 : Int32)))), .val (.int (findV s4 (f3 (0 : Int32)) (f3 (1 : Int32)) (f3 (2 : Int32)) (f3 (3 : Int32)) (f3 (4 : Int32))))] [])) _
    refine XS.iload Xx87.here hx rfl (hb hby at_248) rfl ?_
    show Steps p.tables e below (T85.setTop (mkF m 250 #[.val (.int p0), .val (.int p1), .val (.int p2), .val (.int p3), .val (.int p4), .val (.int p5), .val (.int kx), .val (.int dl), .val (.int sm), .val (.ref b5), .val (.ref b16), .val (.ref b28), .val (.int xe2), .val (.int xe3b), .val (.int xe3), .val (.ref b59), .val (.int (addV emptyS (f1 (0 : Int32)) (f1 (1 : Int32)) (f1 (2 : Int32)) (f1 (3 : Int32)) (f1 (4 : Int32)))), .val (.int (addV s1 (f2 (0 : Int32)) (f2 (1 : Int32)) (f2 (2 : Int32)) (f2 (3 : Int32)) (f2 (4 : Int32)))), .val (.int (findV s2 (f3 (0 : Int32)) (f3 (1 : Int32)) (f3 (2 : Int32)) (f3 (3 : Int32)) (f3 (4 : Int32)))), .val (.int (addV s2 (f3 (0 : Int32)) (f3 (1 : Int32)) (f3 (2 : Int32)) (f3 (3 : Int32)) (f3 (4 : Int32)))), .val (.int (addV s3 (f1 (0 : Int32)) (f1 (1 : Int32)) (f1 (2 : Int32)) (f1 (3 : Int32)) (f1 (4 : Int32)))), .val (.int (findV s4 (f1 (0 : Int32)) (f1 (1 : Int32)) (f1 (2 : Int32)) (f1 (3 : Int32)) (f1 (4 : Int32)))), .val (.int (findV s4 (f2 (0 : Int32)) (f2 (1 : Int32)) (f2 (2 : Int32)) (f2 (3 : Int32)) (f2 (4 : Int32)))), .val (.int (findV s4 (f3 (0 : Int32)) (f3 (1 : Int32)) (f3 (2 : Int32)) (f3 (3 : Int32)) (f3 (4 : Int32))))] [(.int (addV emptyS (f1 (0 : Int32)) (f1 (1 : Int32)) (f1 (2 : Int32)) (f1 (3 : Int32)) (f1 (4 : Int32))))])) _
    refine XS.ifNo Xx87.here hx rfl (hb hby at_250) rfl ((if0 _ _).trans (teq (show (addV emptyS (f1 (0 : Int32)) (f1 (1 : Int32)) (f1 (2 : Int32)) (f1 (3 : Int32)) (f1 (4 : Int32))) = (0 : Int32) from v1)).2) ?_
    show Steps p.tables e below (T85.setTop (mkF m 253 #[.val (.int p0), .val (.int p1), .val (.int p2), .val (.int p3), .val (.int p4), .val (.int p5), .val (.int kx), .val (.int dl), .val (.int sm), .val (.ref b5), .val (.ref b16), .val (.ref b28), .val (.int xe2), .val (.int xe3b), .val (.int xe3), .val (.ref b59), .val (.int (addV emptyS (f1 (0 : Int32)) (f1 (1 : Int32)) (f1 (2 : Int32)) (f1 (3 : Int32)) (f1 (4 : Int32)))), .val (.int (addV s1 (f2 (0 : Int32)) (f2 (1 : Int32)) (f2 (2 : Int32)) (f2 (3 : Int32)) (f2 (4 : Int32)))), .val (.int (findV s2 (f3 (0 : Int32)) (f3 (1 : Int32)) (f3 (2 : Int32)) (f3 (3 : Int32)) (f3 (4 : Int32)))), .val (.int (addV s2 (f3 (0 : Int32)) (f3 (1 : Int32)) (f3 (2 : Int32)) (f3 (3 : Int32)) (f3 (4 : Int32)))), .val (.int (addV s3 (f1 (0 : Int32)) (f1 (1 : Int32)) (f1 (2 : Int32)) (f1 (3 : Int32)) (f1 (4 : Int32)))), .val (.int (findV s4 (f1 (0 : Int32)) (f1 (1 : Int32)) (f1 (2 : Int32)) (f1 (3 : Int32)) (f1 (4 : Int32)))), .val (.int (findV s4 (f2 (0 : Int32)) (f2 (1 : Int32)) (f2 (2 : Int32)) (f2 (3 : Int32)) (f2 (4 : Int32)))), .val (.int (findV s4 (f3 (0 : Int32)) (f3 (1 : Int32)) (f3 (2 : Int32)) (f3 (3 : Int32)) (f3 (4 : Int32))))] [])) _
    refine XS.iload Xx87.here hx rfl (hb hby at_253) rfl ?_
    show Steps p.tables e below (T85.setTop (mkF m 255 #[.val (.int p0), .val (.int p1), .val (.int p2), .val (.int p3), .val (.int p4), .val (.int p5), .val (.int kx), .val (.int dl), .val (.int sm), .val (.ref b5), .val (.ref b16), .val (.ref b28), .val (.int xe2), .val (.int xe3b), .val (.int xe3), .val (.ref b59), .val (.int (addV emptyS (f1 (0 : Int32)) (f1 (1 : Int32)) (f1 (2 : Int32)) (f1 (3 : Int32)) (f1 (4 : Int32)))), .val (.int (addV s1 (f2 (0 : Int32)) (f2 (1 : Int32)) (f2 (2 : Int32)) (f2 (3 : Int32)) (f2 (4 : Int32)))), .val (.int (findV s2 (f3 (0 : Int32)) (f3 (1 : Int32)) (f3 (2 : Int32)) (f3 (3 : Int32)) (f3 (4 : Int32)))), .val (.int (addV s2 (f3 (0 : Int32)) (f3 (1 : Int32)) (f3 (2 : Int32)) (f3 (3 : Int32)) (f3 (4 : Int32)))), .val (.int (addV s3 (f1 (0 : Int32)) (f1 (1 : Int32)) (f1 (2 : Int32)) (f1 (3 : Int32)) (f1 (4 : Int32)))), .val (.int (findV s4 (f1 (0 : Int32)) (f1 (1 : Int32)) (f1 (2 : Int32)) (f1 (3 : Int32)) (f1 (4 : Int32)))), .val (.int (findV s4 (f2 (0 : Int32)) (f2 (1 : Int32)) (f2 (2 : Int32)) (f2 (3 : Int32)) (f2 (4 : Int32)))), .val (.int (findV s4 (f3 (0 : Int32)) (f3 (1 : Int32)) (f3 (2 : Int32)) (f3 (3 : Int32)) (f3 (4 : Int32))))] [(.int (addV s1 (f2 (0 : Int32)) (f2 (1 : Int32)) (f2 (2 : Int32)) (f2 (3 : Int32)) (f2 (4 : Int32))))])) _
    refine XS.iload Xx87.here hx rfl (hb hby at_255) rfl ?_
    show Steps p.tables e below (T85.setTop (mkF m 257 #[.val (.int p0), .val (.int p1), .val (.int p2), .val (.int p3), .val (.int p4), .val (.int p5), .val (.int kx), .val (.int dl), .val (.int sm), .val (.ref b5), .val (.ref b16), .val (.ref b28), .val (.int xe2), .val (.int xe3b), .val (.int xe3), .val (.ref b59), .val (.int (addV emptyS (f1 (0 : Int32)) (f1 (1 : Int32)) (f1 (2 : Int32)) (f1 (3 : Int32)) (f1 (4 : Int32)))), .val (.int (addV s1 (f2 (0 : Int32)) (f2 (1 : Int32)) (f2 (2 : Int32)) (f2 (3 : Int32)) (f2 (4 : Int32)))), .val (.int (findV s2 (f3 (0 : Int32)) (f3 (1 : Int32)) (f3 (2 : Int32)) (f3 (3 : Int32)) (f3 (4 : Int32)))), .val (.int (addV s2 (f3 (0 : Int32)) (f3 (1 : Int32)) (f3 (2 : Int32)) (f3 (3 : Int32)) (f3 (4 : Int32)))), .val (.int (addV s3 (f1 (0 : Int32)) (f1 (1 : Int32)) (f1 (2 : Int32)) (f1 (3 : Int32)) (f1 (4 : Int32)))), .val (.int (findV s4 (f1 (0 : Int32)) (f1 (1 : Int32)) (f1 (2 : Int32)) (f1 (3 : Int32)) (f1 (4 : Int32)))), .val (.int (findV s4 (f2 (0 : Int32)) (f2 (1 : Int32)) (f2 (2 : Int32)) (f2 (3 : Int32)) (f2 (4 : Int32)))), .val (.int (findV s4 (f3 (0 : Int32)) (f3 (1 : Int32)) (f3 (2 : Int32)) (f3 (3 : Int32)) (f3 (4 : Int32))))] [(.int xe2), (.int (addV s1 (f2 (0 : Int32)) (f2 (1 : Int32)) (f2 (2 : Int32)) (f2 (3 : Int32)) (f2 (4 : Int32))))])) _
    refine XS.icmpNo Xx87.here hx rfl (hb hby at_257) rfl (teq (show (addV s1 (f2 (0 : Int32)) (f2 (1 : Int32)) (f2 (2 : Int32)) (f2 (3 : Int32)) (f2 (4 : Int32))) = xe2 from (by rw [v2, hxe2, hsm]; exact own_ifs dl 1))).2 ?_
    show Steps p.tables e below (T85.setTop (mkF m 260 #[.val (.int p0), .val (.int p1), .val (.int p2), .val (.int p3), .val (.int p4), .val (.int p5), .val (.int kx), .val (.int dl), .val (.int sm), .val (.ref b5), .val (.ref b16), .val (.ref b28), .val (.int xe2), .val (.int xe3b), .val (.int xe3), .val (.ref b59), .val (.int (addV emptyS (f1 (0 : Int32)) (f1 (1 : Int32)) (f1 (2 : Int32)) (f1 (3 : Int32)) (f1 (4 : Int32)))), .val (.int (addV s1 (f2 (0 : Int32)) (f2 (1 : Int32)) (f2 (2 : Int32)) (f2 (3 : Int32)) (f2 (4 : Int32)))), .val (.int (findV s2 (f3 (0 : Int32)) (f3 (1 : Int32)) (f3 (2 : Int32)) (f3 (3 : Int32)) (f3 (4 : Int32)))), .val (.int (addV s2 (f3 (0 : Int32)) (f3 (1 : Int32)) (f3 (2 : Int32)) (f3 (3 : Int32)) (f3 (4 : Int32)))), .val (.int (addV s3 (f1 (0 : Int32)) (f1 (1 : Int32)) (f1 (2 : Int32)) (f1 (3 : Int32)) (f1 (4 : Int32)))), .val (.int (findV s4 (f1 (0 : Int32)) (f1 (1 : Int32)) (f1 (2 : Int32)) (f1 (3 : Int32)) (f1 (4 : Int32)))), .val (.int (findV s4 (f2 (0 : Int32)) (f2 (1 : Int32)) (f2 (2 : Int32)) (f2 (3 : Int32)) (f2 (4 : Int32)))), .val (.int (findV s4 (f3 (0 : Int32)) (f3 (1 : Int32)) (f3 (2 : Int32)) (f3 (3 : Int32)) (f3 (4 : Int32))))] [])) _
    refine XS.iload Xx87.here hx rfl (hb hby at_260) rfl ?_
    show Steps p.tables e below (T85.setTop (mkF m 262 #[.val (.int p0), .val (.int p1), .val (.int p2), .val (.int p3), .val (.int p4), .val (.int p5), .val (.int kx), .val (.int dl), .val (.int sm), .val (.ref b5), .val (.ref b16), .val (.ref b28), .val (.int xe2), .val (.int xe3b), .val (.int xe3), .val (.ref b59), .val (.int (addV emptyS (f1 (0 : Int32)) (f1 (1 : Int32)) (f1 (2 : Int32)) (f1 (3 : Int32)) (f1 (4 : Int32)))), .val (.int (addV s1 (f2 (0 : Int32)) (f2 (1 : Int32)) (f2 (2 : Int32)) (f2 (3 : Int32)) (f2 (4 : Int32)))), .val (.int (findV s2 (f3 (0 : Int32)) (f3 (1 : Int32)) (f3 (2 : Int32)) (f3 (3 : Int32)) (f3 (4 : Int32)))), .val (.int (addV s2 (f3 (0 : Int32)) (f3 (1 : Int32)) (f3 (2 : Int32)) (f3 (3 : Int32)) (f3 (4 : Int32)))), .val (.int (addV s3 (f1 (0 : Int32)) (f1 (1 : Int32)) (f1 (2 : Int32)) (f1 (3 : Int32)) (f1 (4 : Int32)))), .val (.int (findV s4 (f1 (0 : Int32)) (f1 (1 : Int32)) (f1 (2 : Int32)) (f1 (3 : Int32)) (f1 (4 : Int32)))), .val (.int (findV s4 (f2 (0 : Int32)) (f2 (1 : Int32)) (f2 (2 : Int32)) (f2 (3 : Int32)) (f2 (4 : Int32)))), .val (.int (findV s4 (f3 (0 : Int32)) (f3 (1 : Int32)) (f3 (2 : Int32)) (f3 (3 : Int32)) (f3 (4 : Int32))))] [(.int (findV s2 (f3 (0 : Int32)) (f3 (1 : Int32)) (f3 (2 : Int32)) (f3 (3 : Int32)) (f3 (4 : Int32))))])) _
    refine XS.iload Xx87.here hx rfl (hb hby at_262) rfl ?_
    show Steps p.tables e below (T85.setTop (mkF m 264 #[.val (.int p0), .val (.int p1), .val (.int p2), .val (.int p3), .val (.int p4), .val (.int p5), .val (.int kx), .val (.int dl), .val (.int sm), .val (.ref b5), .val (.ref b16), .val (.ref b28), .val (.int xe2), .val (.int xe3b), .val (.int xe3), .val (.ref b59), .val (.int (addV emptyS (f1 (0 : Int32)) (f1 (1 : Int32)) (f1 (2 : Int32)) (f1 (3 : Int32)) (f1 (4 : Int32)))), .val (.int (addV s1 (f2 (0 : Int32)) (f2 (1 : Int32)) (f2 (2 : Int32)) (f2 (3 : Int32)) (f2 (4 : Int32)))), .val (.int (findV s2 (f3 (0 : Int32)) (f3 (1 : Int32)) (f3 (2 : Int32)) (f3 (3 : Int32)) (f3 (4 : Int32)))), .val (.int (addV s2 (f3 (0 : Int32)) (f3 (1 : Int32)) (f3 (2 : Int32)) (f3 (3 : Int32)) (f3 (4 : Int32)))), .val (.int (addV s3 (f1 (0 : Int32)) (f1 (1 : Int32)) (f1 (2 : Int32)) (f1 (3 : Int32)) (f1 (4 : Int32)))), .val (.int (findV s4 (f1 (0 : Int32)) (f1 (1 : Int32)) (f1 (2 : Int32)) (f1 (3 : Int32)) (f1 (4 : Int32)))), .val (.int (findV s4 (f2 (0 : Int32)) (f2 (1 : Int32)) (f2 (2 : Int32)) (f2 (3 : Int32)) (f2 (4 : Int32)))), .val (.int (findV s4 (f3 (0 : Int32)) (f3 (1 : Int32)) (f3 (2 : Int32)) (f3 (3 : Int32)) (f3 (4 : Int32))))] [(.int xe3b), (.int (findV s2 (f3 (0 : Int32)) (f3 (1 : Int32)) (f3 (2 : Int32)) (f3 (3 : Int32)) (f3 (4 : Int32))))])) _
    refine XS.icmpNo Xx87.here hx rfl (hb hby at_264) rfl (teq (show (findV s2 (f3 (0 : Int32)) (f3 (1 : Int32)) (f3 (2 : Int32)) (f3 (3 : Int32)) (f3 (4 : Int32))) = xe3b from (by rw [v3, hxe3b, hsm]; exact own_ifs dl (-1)))).2 ?_
    show Steps p.tables e below (T85.setTop (mkF m 267 #[.val (.int p0), .val (.int p1), .val (.int p2), .val (.int p3), .val (.int p4), .val (.int p5), .val (.int kx), .val (.int dl), .val (.int sm), .val (.ref b5), .val (.ref b16), .val (.ref b28), .val (.int xe2), .val (.int xe3b), .val (.int xe3), .val (.ref b59), .val (.int (addV emptyS (f1 (0 : Int32)) (f1 (1 : Int32)) (f1 (2 : Int32)) (f1 (3 : Int32)) (f1 (4 : Int32)))), .val (.int (addV s1 (f2 (0 : Int32)) (f2 (1 : Int32)) (f2 (2 : Int32)) (f2 (3 : Int32)) (f2 (4 : Int32)))), .val (.int (findV s2 (f3 (0 : Int32)) (f3 (1 : Int32)) (f3 (2 : Int32)) (f3 (3 : Int32)) (f3 (4 : Int32)))), .val (.int (addV s2 (f3 (0 : Int32)) (f3 (1 : Int32)) (f3 (2 : Int32)) (f3 (3 : Int32)) (f3 (4 : Int32)))), .val (.int (addV s3 (f1 (0 : Int32)) (f1 (1 : Int32)) (f1 (2 : Int32)) (f1 (3 : Int32)) (f1 (4 : Int32)))), .val (.int (findV s4 (f1 (0 : Int32)) (f1 (1 : Int32)) (f1 (2 : Int32)) (f1 (3 : Int32)) (f1 (4 : Int32)))), .val (.int (findV s4 (f2 (0 : Int32)) (f2 (1 : Int32)) (f2 (2 : Int32)) (f2 (3 : Int32)) (f2 (4 : Int32)))), .val (.int (findV s4 (f3 (0 : Int32)) (f3 (1 : Int32)) (f3 (2 : Int32)) (f3 (3 : Int32)) (f3 (4 : Int32))))] [])) _
    refine XS.iload Xx87.here hx rfl (hb hby at_267) rfl ?_
    show Steps p.tables e below (T85.setTop (mkF m 269 #[.val (.int p0), .val (.int p1), .val (.int p2), .val (.int p3), .val (.int p4), .val (.int p5), .val (.int kx), .val (.int dl), .val (.int sm), .val (.ref b5), .val (.ref b16), .val (.ref b28), .val (.int xe2), .val (.int xe3b), .val (.int xe3), .val (.ref b59), .val (.int (addV emptyS (f1 (0 : Int32)) (f1 (1 : Int32)) (f1 (2 : Int32)) (f1 (3 : Int32)) (f1 (4 : Int32)))), .val (.int (addV s1 (f2 (0 : Int32)) (f2 (1 : Int32)) (f2 (2 : Int32)) (f2 (3 : Int32)) (f2 (4 : Int32)))), .val (.int (findV s2 (f3 (0 : Int32)) (f3 (1 : Int32)) (f3 (2 : Int32)) (f3 (3 : Int32)) (f3 (4 : Int32)))), .val (.int (addV s2 (f3 (0 : Int32)) (f3 (1 : Int32)) (f3 (2 : Int32)) (f3 (3 : Int32)) (f3 (4 : Int32)))), .val (.int (addV s3 (f1 (0 : Int32)) (f1 (1 : Int32)) (f1 (2 : Int32)) (f1 (3 : Int32)) (f1 (4 : Int32)))), .val (.int (findV s4 (f1 (0 : Int32)) (f1 (1 : Int32)) (f1 (2 : Int32)) (f1 (3 : Int32)) (f1 (4 : Int32)))), .val (.int (findV s4 (f2 (0 : Int32)) (f2 (1 : Int32)) (f2 (2 : Int32)) (f2 (3 : Int32)) (f2 (4 : Int32)))), .val (.int (findV s4 (f3 (0 : Int32)) (f3 (1 : Int32)) (f3 (2 : Int32)) (f3 (3 : Int32)) (f3 (4 : Int32))))] [(.int (addV s2 (f3 (0 : Int32)) (f3 (1 : Int32)) (f3 (2 : Int32)) (f3 (3 : Int32)) (f3 (4 : Int32))))])) _
    refine XS.iload Xx87.here hx rfl (hb hby at_269) rfl ?_
    show Steps p.tables e below (T85.setTop (mkF m 271 #[.val (.int p0), .val (.int p1), .val (.int p2), .val (.int p3), .val (.int p4), .val (.int p5), .val (.int kx), .val (.int dl), .val (.int sm), .val (.ref b5), .val (.ref b16), .val (.ref b28), .val (.int xe2), .val (.int xe3b), .val (.int xe3), .val (.ref b59), .val (.int (addV emptyS (f1 (0 : Int32)) (f1 (1 : Int32)) (f1 (2 : Int32)) (f1 (3 : Int32)) (f1 (4 : Int32)))), .val (.int (addV s1 (f2 (0 : Int32)) (f2 (1 : Int32)) (f2 (2 : Int32)) (f2 (3 : Int32)) (f2 (4 : Int32)))), .val (.int (findV s2 (f3 (0 : Int32)) (f3 (1 : Int32)) (f3 (2 : Int32)) (f3 (3 : Int32)) (f3 (4 : Int32)))), .val (.int (addV s2 (f3 (0 : Int32)) (f3 (1 : Int32)) (f3 (2 : Int32)) (f3 (3 : Int32)) (f3 (4 : Int32)))), .val (.int (addV s3 (f1 (0 : Int32)) (f1 (1 : Int32)) (f1 (2 : Int32)) (f1 (3 : Int32)) (f1 (4 : Int32)))), .val (.int (findV s4 (f1 (0 : Int32)) (f1 (1 : Int32)) (f1 (2 : Int32)) (f1 (3 : Int32)) (f1 (4 : Int32)))), .val (.int (findV s4 (f2 (0 : Int32)) (f2 (1 : Int32)) (f2 (2 : Int32)) (f2 (3 : Int32)) (f2 (4 : Int32)))), .val (.int (findV s4 (f3 (0 : Int32)) (f3 (1 : Int32)) (f3 (2 : Int32)) (f3 (3 : Int32)) (f3 (4 : Int32))))] [(.int xe3), (.int (addV s2 (f3 (0 : Int32)) (f3 (1 : Int32)) (f3 (2 : Int32)) (f3 (3 : Int32)) (f3 (4 : Int32))))])) _
    refine XS.icmpNo Xx87.here hx rfl (hb hby at_271) rfl (teq (show (addV s2 (f3 (0 : Int32)) (f3 (1 : Int32)) (f3 (2 : Int32)) (f3 (3 : Int32)) (f3 (4 : Int32))) = xe3 from (by rw [v4, hxe3, hsm]; exact own_ifs dl 2))).2 ?_
    show Steps p.tables e below (T85.setTop (mkF m 274 #[.val (.int p0), .val (.int p1), .val (.int p2), .val (.int p3), .val (.int p4), .val (.int p5), .val (.int kx), .val (.int dl), .val (.int sm), .val (.ref b5), .val (.ref b16), .val (.ref b28), .val (.int xe2), .val (.int xe3b), .val (.int xe3), .val (.ref b59), .val (.int (addV emptyS (f1 (0 : Int32)) (f1 (1 : Int32)) (f1 (2 : Int32)) (f1 (3 : Int32)) (f1 (4 : Int32)))), .val (.int (addV s1 (f2 (0 : Int32)) (f2 (1 : Int32)) (f2 (2 : Int32)) (f2 (3 : Int32)) (f2 (4 : Int32)))), .val (.int (findV s2 (f3 (0 : Int32)) (f3 (1 : Int32)) (f3 (2 : Int32)) (f3 (3 : Int32)) (f3 (4 : Int32)))), .val (.int (addV s2 (f3 (0 : Int32)) (f3 (1 : Int32)) (f3 (2 : Int32)) (f3 (3 : Int32)) (f3 (4 : Int32)))), .val (.int (addV s3 (f1 (0 : Int32)) (f1 (1 : Int32)) (f1 (2 : Int32)) (f1 (3 : Int32)) (f1 (4 : Int32)))), .val (.int (findV s4 (f1 (0 : Int32)) (f1 (1 : Int32)) (f1 (2 : Int32)) (f1 (3 : Int32)) (f1 (4 : Int32)))), .val (.int (findV s4 (f2 (0 : Int32)) (f2 (1 : Int32)) (f2 (2 : Int32)) (f2 (3 : Int32)) (f2 (4 : Int32)))), .val (.int (findV s4 (f3 (0 : Int32)) (f3 (1 : Int32)) (f3 (2 : Int32)) (f3 (3 : Int32)) (f3 (4 : Int32))))] [])) _
    refine XS.iload Xx87.here hx rfl (hb hby at_274) rfl ?_
    show Steps p.tables e below (T85.setTop (mkF m 276 #[.val (.int p0), .val (.int p1), .val (.int p2), .val (.int p3), .val (.int p4), .val (.int p5), .val (.int kx), .val (.int dl), .val (.int sm), .val (.ref b5), .val (.ref b16), .val (.ref b28), .val (.int xe2), .val (.int xe3b), .val (.int xe3), .val (.ref b59), .val (.int (addV emptyS (f1 (0 : Int32)) (f1 (1 : Int32)) (f1 (2 : Int32)) (f1 (3 : Int32)) (f1 (4 : Int32)))), .val (.int (addV s1 (f2 (0 : Int32)) (f2 (1 : Int32)) (f2 (2 : Int32)) (f2 (3 : Int32)) (f2 (4 : Int32)))), .val (.int (findV s2 (f3 (0 : Int32)) (f3 (1 : Int32)) (f3 (2 : Int32)) (f3 (3 : Int32)) (f3 (4 : Int32)))), .val (.int (addV s2 (f3 (0 : Int32)) (f3 (1 : Int32)) (f3 (2 : Int32)) (f3 (3 : Int32)) (f3 (4 : Int32)))), .val (.int (addV s3 (f1 (0 : Int32)) (f1 (1 : Int32)) (f1 (2 : Int32)) (f1 (3 : Int32)) (f1 (4 : Int32)))), .val (.int (findV s4 (f1 (0 : Int32)) (f1 (1 : Int32)) (f1 (2 : Int32)) (f1 (3 : Int32)) (f1 (4 : Int32)))), .val (.int (findV s4 (f2 (0 : Int32)) (f2 (1 : Int32)) (f2 (2 : Int32)) (f2 (3 : Int32)) (f2 (4 : Int32)))), .val (.int (findV s4 (f3 (0 : Int32)) (f3 (1 : Int32)) (f3 (2 : Int32)) (f3 (3 : Int32)) (f3 (4 : Int32))))] [(.int (addV s3 (f1 (0 : Int32)) (f1 (1 : Int32)) (f1 (2 : Int32)) (f1 (3 : Int32)) (f1 (4 : Int32))))])) _
    refine XS.ifNo Xx87.here hx rfl (hb hby at_276) rfl ((if0 _ _).trans (teq (show (addV s3 (f1 (0 : Int32)) (f1 (1 : Int32)) (f1 (2 : Int32)) (f1 (3 : Int32)) (f1 (4 : Int32))) = (0 : Int32) from v5)).2) ?_
    show Steps p.tables e below (T85.setTop (mkF m 279 #[.val (.int p0), .val (.int p1), .val (.int p2), .val (.int p3), .val (.int p4), .val (.int p5), .val (.int kx), .val (.int dl), .val (.int sm), .val (.ref b5), .val (.ref b16), .val (.ref b28), .val (.int xe2), .val (.int xe3b), .val (.int xe3), .val (.ref b59), .val (.int (addV emptyS (f1 (0 : Int32)) (f1 (1 : Int32)) (f1 (2 : Int32)) (f1 (3 : Int32)) (f1 (4 : Int32)))), .val (.int (addV s1 (f2 (0 : Int32)) (f2 (1 : Int32)) (f2 (2 : Int32)) (f2 (3 : Int32)) (f2 (4 : Int32)))), .val (.int (findV s2 (f3 (0 : Int32)) (f3 (1 : Int32)) (f3 (2 : Int32)) (f3 (3 : Int32)) (f3 (4 : Int32)))), .val (.int (addV s2 (f3 (0 : Int32)) (f3 (1 : Int32)) (f3 (2 : Int32)) (f3 (3 : Int32)) (f3 (4 : Int32)))), .val (.int (addV s3 (f1 (0 : Int32)) (f1 (1 : Int32)) (f1 (2 : Int32)) (f1 (3 : Int32)) (f1 (4 : Int32)))), .val (.int (findV s4 (f1 (0 : Int32)) (f1 (1 : Int32)) (f1 (2 : Int32)) (f1 (3 : Int32)) (f1 (4 : Int32)))), .val (.int (findV s4 (f2 (0 : Int32)) (f2 (1 : Int32)) (f2 (2 : Int32)) (f2 (3 : Int32)) (f2 (4 : Int32)))), .val (.int (findV s4 (f3 (0 : Int32)) (f3 (1 : Int32)) (f3 (2 : Int32)) (f3 (3 : Int32)) (f3 (4 : Int32))))] [])) _
    refine XS.iload Xx87.here hx rfl (hb hby at_279) rfl ?_
    show Steps p.tables e below (T85.setTop (mkF m 281 #[.val (.int p0), .val (.int p1), .val (.int p2), .val (.int p3), .val (.int p4), .val (.int p5), .val (.int kx), .val (.int dl), .val (.int sm), .val (.ref b5), .val (.ref b16), .val (.ref b28), .val (.int xe2), .val (.int xe3b), .val (.int xe3), .val (.ref b59), .val (.int (addV emptyS (f1 (0 : Int32)) (f1 (1 : Int32)) (f1 (2 : Int32)) (f1 (3 : Int32)) (f1 (4 : Int32)))), .val (.int (addV s1 (f2 (0 : Int32)) (f2 (1 : Int32)) (f2 (2 : Int32)) (f2 (3 : Int32)) (f2 (4 : Int32)))), .val (.int (findV s2 (f3 (0 : Int32)) (f3 (1 : Int32)) (f3 (2 : Int32)) (f3 (3 : Int32)) (f3 (4 : Int32)))), .val (.int (addV s2 (f3 (0 : Int32)) (f3 (1 : Int32)) (f3 (2 : Int32)) (f3 (3 : Int32)) (f3 (4 : Int32)))), .val (.int (addV s3 (f1 (0 : Int32)) (f1 (1 : Int32)) (f1 (2 : Int32)) (f1 (3 : Int32)) (f1 (4 : Int32)))), .val (.int (findV s4 (f1 (0 : Int32)) (f1 (1 : Int32)) (f1 (2 : Int32)) (f1 (3 : Int32)) (f1 (4 : Int32)))), .val (.int (findV s4 (f2 (0 : Int32)) (f2 (1 : Int32)) (f2 (2 : Int32)) (f2 (3 : Int32)) (f2 (4 : Int32)))), .val (.int (findV s4 (f3 (0 : Int32)) (f3 (1 : Int32)) (f3 (2 : Int32)) (f3 (3 : Int32)) (f3 (4 : Int32))))] [(.int (findV s4 (f1 (0 : Int32)) (f1 (1 : Int32)) (f1 (2 : Int32)) (f1 (3 : Int32)) (f1 (4 : Int32))))])) _
    refine XS.ifNo Xx87.here hx rfl (hb hby at_281) rfl ((if0 _ _).trans (teq (show (findV s4 (f1 (0 : Int32)) (f1 (1 : Int32)) (f1 (2 : Int32)) (f1 (3 : Int32)) (f1 (4 : Int32))) = (0 : Int32) from v6)).2) ?_
    show Steps p.tables e below (T85.setTop (mkF m 284 #[.val (.int p0), .val (.int p1), .val (.int p2), .val (.int p3), .val (.int p4), .val (.int p5), .val (.int kx), .val (.int dl), .val (.int sm), .val (.ref b5), .val (.ref b16), .val (.ref b28), .val (.int xe2), .val (.int xe3b), .val (.int xe3), .val (.ref b59), .val (.int (addV emptyS (f1 (0 : Int32)) (f1 (1 : Int32)) (f1 (2 : Int32)) (f1 (3 : Int32)) (f1 (4 : Int32)))), .val (.int (addV s1 (f2 (0 : Int32)) (f2 (1 : Int32)) (f2 (2 : Int32)) (f2 (3 : Int32)) (f2 (4 : Int32)))), .val (.int (findV s2 (f3 (0 : Int32)) (f3 (1 : Int32)) (f3 (2 : Int32)) (f3 (3 : Int32)) (f3 (4 : Int32)))), .val (.int (addV s2 (f3 (0 : Int32)) (f3 (1 : Int32)) (f3 (2 : Int32)) (f3 (3 : Int32)) (f3 (4 : Int32)))), .val (.int (addV s3 (f1 (0 : Int32)) (f1 (1 : Int32)) (f1 (2 : Int32)) (f1 (3 : Int32)) (f1 (4 : Int32)))), .val (.int (findV s4 (f1 (0 : Int32)) (f1 (1 : Int32)) (f1 (2 : Int32)) (f1 (3 : Int32)) (f1 (4 : Int32)))), .val (.int (findV s4 (f2 (0 : Int32)) (f2 (1 : Int32)) (f2 (2 : Int32)) (f2 (3 : Int32)) (f2 (4 : Int32)))), .val (.int (findV s4 (f3 (0 : Int32)) (f3 (1 : Int32)) (f3 (2 : Int32)) (f3 (3 : Int32)) (f3 (4 : Int32))))] [])) _
    refine XS.iload Xx87.here hx rfl (hb hby at_284) rfl ?_
    show Steps p.tables e below (T85.setTop (mkF m 286 #[.val (.int p0), .val (.int p1), .val (.int p2), .val (.int p3), .val (.int p4), .val (.int p5), .val (.int kx), .val (.int dl), .val (.int sm), .val (.ref b5), .val (.ref b16), .val (.ref b28), .val (.int xe2), .val (.int xe3b), .val (.int xe3), .val (.ref b59), .val (.int (addV emptyS (f1 (0 : Int32)) (f1 (1 : Int32)) (f1 (2 : Int32)) (f1 (3 : Int32)) (f1 (4 : Int32)))), .val (.int (addV s1 (f2 (0 : Int32)) (f2 (1 : Int32)) (f2 (2 : Int32)) (f2 (3 : Int32)) (f2 (4 : Int32)))), .val (.int (findV s2 (f3 (0 : Int32)) (f3 (1 : Int32)) (f3 (2 : Int32)) (f3 (3 : Int32)) (f3 (4 : Int32)))), .val (.int (addV s2 (f3 (0 : Int32)) (f3 (1 : Int32)) (f3 (2 : Int32)) (f3 (3 : Int32)) (f3 (4 : Int32)))), .val (.int (addV s3 (f1 (0 : Int32)) (f1 (1 : Int32)) (f1 (2 : Int32)) (f1 (3 : Int32)) (f1 (4 : Int32)))), .val (.int (findV s4 (f1 (0 : Int32)) (f1 (1 : Int32)) (f1 (2 : Int32)) (f1 (3 : Int32)) (f1 (4 : Int32)))), .val (.int (findV s4 (f2 (0 : Int32)) (f2 (1 : Int32)) (f2 (2 : Int32)) (f2 (3 : Int32)) (f2 (4 : Int32)))), .val (.int (findV s4 (f3 (0 : Int32)) (f3 (1 : Int32)) (f3 (2 : Int32)) (f3 (3 : Int32)) (f3 (4 : Int32))))] [(.int (findV s4 (f2 (0 : Int32)) (f2 (1 : Int32)) (f2 (2 : Int32)) (f2 (3 : Int32)) (f2 (4 : Int32))))])) _
    refine XS.iload Xx87.here hx rfl (hb hby at_286) rfl ?_
    show Steps p.tables e below (T85.setTop (mkF m 288 #[.val (.int p0), .val (.int p1), .val (.int p2), .val (.int p3), .val (.int p4), .val (.int p5), .val (.int kx), .val (.int dl), .val (.int sm), .val (.ref b5), .val (.ref b16), .val (.ref b28), .val (.int xe2), .val (.int xe3b), .val (.int xe3), .val (.ref b59), .val (.int (addV emptyS (f1 (0 : Int32)) (f1 (1 : Int32)) (f1 (2 : Int32)) (f1 (3 : Int32)) (f1 (4 : Int32)))), .val (.int (addV s1 (f2 (0 : Int32)) (f2 (1 : Int32)) (f2 (2 : Int32)) (f2 (3 : Int32)) (f2 (4 : Int32)))), .val (.int (findV s2 (f3 (0 : Int32)) (f3 (1 : Int32)) (f3 (2 : Int32)) (f3 (3 : Int32)) (f3 (4 : Int32)))), .val (.int (addV s2 (f3 (0 : Int32)) (f3 (1 : Int32)) (f3 (2 : Int32)) (f3 (3 : Int32)) (f3 (4 : Int32)))), .val (.int (addV s3 (f1 (0 : Int32)) (f1 (1 : Int32)) (f1 (2 : Int32)) (f1 (3 : Int32)) (f1 (4 : Int32)))), .val (.int (findV s4 (f1 (0 : Int32)) (f1 (1 : Int32)) (f1 (2 : Int32)) (f1 (3 : Int32)) (f1 (4 : Int32)))), .val (.int (findV s4 (f2 (0 : Int32)) (f2 (1 : Int32)) (f2 (2 : Int32)) (f2 (3 : Int32)) (f2 (4 : Int32)))), .val (.int (findV s4 (f3 (0 : Int32)) (f3 (1 : Int32)) (f3 (2 : Int32)) (f3 (3 : Int32)) (f3 (4 : Int32))))] [(.int xe2), (.int (findV s4 (f2 (0 : Int32)) (f2 (1 : Int32)) (f2 (2 : Int32)) (f2 (3 : Int32)) (f2 (4 : Int32))))])) _
    refine XS.icmpNo Xx87.here hx rfl (hb hby at_288) rfl (teq (show (findV s4 (f2 (0 : Int32)) (f2 (1 : Int32)) (f2 (2 : Int32)) (f2 (3 : Int32)) (f2 (4 : Int32))) = xe2 from (by rw [v7, hxe2, hsm]; exact own_ifs dl 1))).2 ?_
    show Steps p.tables e below (T85.setTop (mkF m 291 #[.val (.int p0), .val (.int p1), .val (.int p2), .val (.int p3), .val (.int p4), .val (.int p5), .val (.int kx), .val (.int dl), .val (.int sm), .val (.ref b5), .val (.ref b16), .val (.ref b28), .val (.int xe2), .val (.int xe3b), .val (.int xe3), .val (.ref b59), .val (.int (addV emptyS (f1 (0 : Int32)) (f1 (1 : Int32)) (f1 (2 : Int32)) (f1 (3 : Int32)) (f1 (4 : Int32)))), .val (.int (addV s1 (f2 (0 : Int32)) (f2 (1 : Int32)) (f2 (2 : Int32)) (f2 (3 : Int32)) (f2 (4 : Int32)))), .val (.int (findV s2 (f3 (0 : Int32)) (f3 (1 : Int32)) (f3 (2 : Int32)) (f3 (3 : Int32)) (f3 (4 : Int32)))), .val (.int (addV s2 (f3 (0 : Int32)) (f3 (1 : Int32)) (f3 (2 : Int32)) (f3 (3 : Int32)) (f3 (4 : Int32)))), .val (.int (addV s3 (f1 (0 : Int32)) (f1 (1 : Int32)) (f1 (2 : Int32)) (f1 (3 : Int32)) (f1 (4 : Int32)))), .val (.int (findV s4 (f1 (0 : Int32)) (f1 (1 : Int32)) (f1 (2 : Int32)) (f1 (3 : Int32)) (f1 (4 : Int32)))), .val (.int (findV s4 (f2 (0 : Int32)) (f2 (1 : Int32)) (f2 (2 : Int32)) (f2 (3 : Int32)) (f2 (4 : Int32)))), .val (.int (findV s4 (f3 (0 : Int32)) (f3 (1 : Int32)) (f3 (2 : Int32)) (f3 (3 : Int32)) (f3 (4 : Int32))))] [])) _
    refine XS.iload Xx87.here hx rfl (hb hby at_291) rfl ?_
    show Steps p.tables e below (T85.setTop (mkF m 293 #[.val (.int p0), .val (.int p1), .val (.int p2), .val (.int p3), .val (.int p4), .val (.int p5), .val (.int kx), .val (.int dl), .val (.int sm), .val (.ref b5), .val (.ref b16), .val (.ref b28), .val (.int xe2), .val (.int xe3b), .val (.int xe3), .val (.ref b59), .val (.int (addV emptyS (f1 (0 : Int32)) (f1 (1 : Int32)) (f1 (2 : Int32)) (f1 (3 : Int32)) (f1 (4 : Int32)))), .val (.int (addV s1 (f2 (0 : Int32)) (f2 (1 : Int32)) (f2 (2 : Int32)) (f2 (3 : Int32)) (f2 (4 : Int32)))), .val (.int (findV s2 (f3 (0 : Int32)) (f3 (1 : Int32)) (f3 (2 : Int32)) (f3 (3 : Int32)) (f3 (4 : Int32)))), .val (.int (addV s2 (f3 (0 : Int32)) (f3 (1 : Int32)) (f3 (2 : Int32)) (f3 (3 : Int32)) (f3 (4 : Int32)))), .val (.int (addV s3 (f1 (0 : Int32)) (f1 (1 : Int32)) (f1 (2 : Int32)) (f1 (3 : Int32)) (f1 (4 : Int32)))), .val (.int (findV s4 (f1 (0 : Int32)) (f1 (1 : Int32)) (f1 (2 : Int32)) (f1 (3 : Int32)) (f1 (4 : Int32)))), .val (.int (findV s4 (f2 (0 : Int32)) (f2 (1 : Int32)) (f2 (2 : Int32)) (f2 (3 : Int32)) (f2 (4 : Int32)))), .val (.int (findV s4 (f3 (0 : Int32)) (f3 (1 : Int32)) (f3 (2 : Int32)) (f3 (3 : Int32)) (f3 (4 : Int32))))] [(.int (findV s4 (f3 (0 : Int32)) (f3 (1 : Int32)) (f3 (2 : Int32)) (f3 (3 : Int32)) (f3 (4 : Int32))))])) _
    refine XS.iload Xx87.here hx rfl (hb hby at_293) rfl ?_
    show Steps p.tables e below (T85.setTop (mkF m 295 #[.val (.int p0), .val (.int p1), .val (.int p2), .val (.int p3), .val (.int p4), .val (.int p5), .val (.int kx), .val (.int dl), .val (.int sm), .val (.ref b5), .val (.ref b16), .val (.ref b28), .val (.int xe2), .val (.int xe3b), .val (.int xe3), .val (.ref b59), .val (.int (addV emptyS (f1 (0 : Int32)) (f1 (1 : Int32)) (f1 (2 : Int32)) (f1 (3 : Int32)) (f1 (4 : Int32)))), .val (.int (addV s1 (f2 (0 : Int32)) (f2 (1 : Int32)) (f2 (2 : Int32)) (f2 (3 : Int32)) (f2 (4 : Int32)))), .val (.int (findV s2 (f3 (0 : Int32)) (f3 (1 : Int32)) (f3 (2 : Int32)) (f3 (3 : Int32)) (f3 (4 : Int32)))), .val (.int (addV s2 (f3 (0 : Int32)) (f3 (1 : Int32)) (f3 (2 : Int32)) (f3 (3 : Int32)) (f3 (4 : Int32)))), .val (.int (addV s3 (f1 (0 : Int32)) (f1 (1 : Int32)) (f1 (2 : Int32)) (f1 (3 : Int32)) (f1 (4 : Int32)))), .val (.int (findV s4 (f1 (0 : Int32)) (f1 (1 : Int32)) (f1 (2 : Int32)) (f1 (3 : Int32)) (f1 (4 : Int32)))), .val (.int (findV s4 (f2 (0 : Int32)) (f2 (1 : Int32)) (f2 (2 : Int32)) (f2 (3 : Int32)) (f2 (4 : Int32)))), .val (.int (findV s4 (f3 (0 : Int32)) (f3 (1 : Int32)) (f3 (2 : Int32)) (f3 (3 : Int32)) (f3 (4 : Int32))))] [(.int xe3), (.int (findV s4 (f3 (0 : Int32)) (f3 (1 : Int32)) (f3 (2 : Int32)) (f3 (3 : Int32)) (f3 (4 : Int32))))])) _
    refine XS.icmpNo Xx87.here hx rfl (hb hby at_295) rfl (teq (show (findV s4 (f3 (0 : Int32)) (f3 (1 : Int32)) (f3 (2 : Int32)) (f3 (3 : Int32)) (f3 (4 : Int32))) = xe3 from (by rw [v8, hxe3, hsm]; exact own_ifs dl 2))).2 ?_
    show Steps p.tables e below (T85.setTop (mkF m 298 #[.val (.int p0), .val (.int p1), .val (.int p2), .val (.int p3), .val (.int p4), .val (.int p5), .val (.int kx), .val (.int dl), .val (.int sm), .val (.ref b5), .val (.ref b16), .val (.ref b28), .val (.int xe2), .val (.int xe3b), .val (.int xe3), .val (.ref b59), .val (.int (addV emptyS (f1 (0 : Int32)) (f1 (1 : Int32)) (f1 (2 : Int32)) (f1 (3 : Int32)) (f1 (4 : Int32)))), .val (.int (addV s1 (f2 (0 : Int32)) (f2 (1 : Int32)) (f2 (2 : Int32)) (f2 (3 : Int32)) (f2 (4 : Int32)))), .val (.int (findV s2 (f3 (0 : Int32)) (f3 (1 : Int32)) (f3 (2 : Int32)) (f3 (3 : Int32)) (f3 (4 : Int32)))), .val (.int (addV s2 (f3 (0 : Int32)) (f3 (1 : Int32)) (f3 (2 : Int32)) (f3 (3 : Int32)) (f3 (4 : Int32)))), .val (.int (addV s3 (f1 (0 : Int32)) (f1 (1 : Int32)) (f1 (2 : Int32)) (f1 (3 : Int32)) (f1 (4 : Int32)))), .val (.int (findV s4 (f1 (0 : Int32)) (f1 (1 : Int32)) (f1 (2 : Int32)) (f1 (3 : Int32)) (f1 (4 : Int32)))), .val (.int (findV s4 (f2 (0 : Int32)) (f2 (1 : Int32)) (f2 (2 : Int32)) (f2 (3 : Int32)) (f2 (4 : Int32)))), .val (.int (findV s4 (f3 (0 : Int32)) (f3 (1 : Int32)) (f3 (2 : Int32)) (f3 (3 : Int32)) (f3 (4 : Int32))))] [])) _
    refine XS.iconst Xx87.here hx rfl (hb hby at_298) ?_
    show Steps p.tables e below (T85.setTop (mkF m 299 #[.val (.int p0), .val (.int p1), .val (.int p2), .val (.int p3), .val (.int p4), .val (.int p5), .val (.int kx), .val (.int dl), .val (.int sm), .val (.ref b5), .val (.ref b16), .val (.ref b28), .val (.int xe2), .val (.int xe3b), .val (.int xe3), .val (.ref b59), .val (.int (addV emptyS (f1 (0 : Int32)) (f1 (1 : Int32)) (f1 (2 : Int32)) (f1 (3 : Int32)) (f1 (4 : Int32)))), .val (.int (addV s1 (f2 (0 : Int32)) (f2 (1 : Int32)) (f2 (2 : Int32)) (f2 (3 : Int32)) (f2 (4 : Int32)))), .val (.int (findV s2 (f3 (0 : Int32)) (f3 (1 : Int32)) (f3 (2 : Int32)) (f3 (3 : Int32)) (f3 (4 : Int32)))), .val (.int (addV s2 (f3 (0 : Int32)) (f3 (1 : Int32)) (f3 (2 : Int32)) (f3 (3 : Int32)) (f3 (4 : Int32)))), .val (.int (addV s3 (f1 (0 : Int32)) (f1 (1 : Int32)) (f1 (2 : Int32)) (f1 (3 : Int32)) (f1 (4 : Int32)))), .val (.int (findV s4 (f1 (0 : Int32)) (f1 (1 : Int32)) (f1 (2 : Int32)) (f1 (3 : Int32)) (f1 (4 : Int32)))), .val (.int (findV s4 (f2 (0 : Int32)) (f2 (1 : Int32)) (f2 (2 : Int32)) (f2 (3 : Int32)) (f2 (4 : Int32)))), .val (.int (findV s4 (f3 (0 : Int32)) (f3 (1 : Int32)) (f3 (2 : Int32)) (f3 (3 : Int32)) (f3 (4 : Int32))))] [(.int (1 : Int32))])) _
    refine XS.goto Xx87.here hx rfl (pc0 := 299) (pc' := 303) rfl (hb hby at_299) (by decide) (by decide) ?_
    show Steps p.tables e below (T85.setTop (mkF m 303 #[.val (.int p0), .val (.int p1), .val (.int p2), .val (.int p3), .val (.int p4), .val (.int p5), .val (.int kx), .val (.int dl), .val (.int sm), .val (.ref b5), .val (.ref b16), .val (.ref b28), .val (.int xe2), .val (.int xe3b), .val (.int xe3), .val (.ref b59), .val (.int (addV emptyS (f1 (0 : Int32)) (f1 (1 : Int32)) (f1 (2 : Int32)) (f1 (3 : Int32)) (f1 (4 : Int32)))), .val (.int (addV s1 (f2 (0 : Int32)) (f2 (1 : Int32)) (f2 (2 : Int32)) (f2 (3 : Int32)) (f2 (4 : Int32)))), .val (.int (findV s2 (f3 (0 : Int32)) (f3 (1 : Int32)) (f3 (2 : Int32)) (f3 (3 : Int32)) (f3 (4 : Int32)))), .val (.int (addV s2 (f3 (0 : Int32)) (f3 (1 : Int32)) (f3 (2 : Int32)) (f3 (3 : Int32)) (f3 (4 : Int32)))), .val (.int (addV s3 (f1 (0 : Int32)) (f1 (1 : Int32)) (f1 (2 : Int32)) (f1 (3 : Int32)) (f1 (4 : Int32)))), .val (.int (findV s4 (f1 (0 : Int32)) (f1 (1 : Int32)) (f1 (2 : Int32)) (f1 (3 : Int32)) (f1 (4 : Int32)))), .val (.int (findV s4 (f2 (0 : Int32)) (f2 (1 : Int32)) (f2 (2 : Int32)) (f2 (3 : Int32)) (f2 (4 : Int32)))), .val (.int (findV s4 (f3 (0 : Int32)) (f3 (1 : Int32)) (f3 (2 : Int32)) (f3 (3 : Int32)) (f3 (4 : Int32))))] [(.int (1 : Int32))])) _
    exact retN Xx87 hx (t := .boolean) Bd.returns (by simp) (hb hby at_303) hr
  · show Q0 h0 n0 _ T85.heap _
    rw [e85]
    exact ⟨rfl, Nx87⟩
set_option maxRecDepth 65536 in
set_option maxHeartbeats 40000000 in
theorem comes_1 {Post : Tables → Env → Array Value → State → Outcome → State → Prop} (hpost : ∀ tb e args s v u, (limb_1_1.after args s (.returned v) u = true ∧ limb_1_2.after args s (.returned v) u = true ∧ True) → FrameEnd s (.returned v) u (Jvm.fieldLocs frame_1_writes args s ++ Jvm.arrayLocs frame_1_arrays args s ++ Jvm.staticLocs frame_1_statics s) 32 1024 → Post tb e args s (.returned v) u) :
    ArmFor flags0 classFile x code maxLocals ret World_1 tables_1 room_1 Calls_1 rest_1 Pre_1 Post := by
  intro l hfl _ _ p e ha hc hk s m args below hf hA hF happ hP
  obtain ⟨hcalls, hrest, hpre⟩ := hP
  obtain ⟨-, -, -, hnamed, -, -, -, hat⟩ := (Spec.applies_iff hf).mp happ
  obtain ⟨hg, hn⟩ := and_e (Cond.before_iff.mp (show (Jvm.Cond.and given_1 narrow_1).before args s = true from hpre))
  obtain ⟨hcnt, hg1⟩ := and_e hg
  obtain ⟨ha0, hg2⟩ := and_e hg1
  obtain ⟨ha1, hg3⟩ := and_e hg2
  obtain ⟨ha2, hg4⟩ := and_e hg3
  obtain ⟨ha3, hg5⟩ := and_e hg4
  obtain ⟨ha4, hg6⟩ := and_e hg5
  have ha5 := hg6
  obtain ⟨w0, w1, w2, w3, w4, w5, rfl⟩ : ∃ w0 w1 w2 w3 w4 w5 : Value, args = #[w0, w1, w2, w3, w4, w5] := by
    have hs : args.size = 6 := by simpa [Cond.value, given_1] using hcnt
    obtain ⟨L⟩ := args
    match L, hs with
    | [w0, w1, w2, w3, w4, w5], _ => exact ⟨w0, w1, w2, w3, w4, w5, rfl⟩
  have hw := fun d (hd : d ∈ tables_1) => atoms_spec (ws := Jvm.Cond.code x code maxLocals ret :: tables_1) hat d (List.mem_cons_of_mem _ hd)
  have hfit : Fit s := fun {y c} hc i hi => by
    obtain ⟨ha, rfl⟩ := Array.getElem?_eq_some_iff.mp hc
    have q := List.all_eq_true.mp ((Array.all_eq_true_iff_forall_mem.mp hF) _ (Array.getElem_mem ha)) i (List.mem_range.mpr hi)
    simpa [Array.getElem?_eq_getElem hi] using q
  obtain ⟨i0, ei0⟩ := is_v ha0
  obtain rfl : w0 = (.int i0) := Option.some.inj ei0
  obtain ⟨i1, ei1⟩ := is_v ha1
  obtain rfl : w1 = (.int i1) := Option.some.inj ei1
  obtain ⟨i2, ei2⟩ := is_v ha2
  obtain rfl : w2 = (.int i2) := Option.some.inj ei2
  obtain ⟨i3, ei3⟩ := is_v ha3
  obtain rfl : w3 = (.int i3) := Option.some.inj ei3
  obtain ⟨i4, ei4⟩ := is_v ha4
  obtain rfl : w4 = (.int i4) := Option.some.inj ei4
  obtain ⟨i5, ei5⟩ := is_v ha5
  obtain rfl : w5 = (.int i5) := Option.some.inj ei5
  obtain ⟨n, o, h1, h2, h3, _, L, rfl, ⟨rfl, N⟩, hq⟩ := rm0 l s _ hw tables_1 i0 i1 i2 i3 i4 i5 s.heap s.heap.size (Nat.le_refl _) p e ha hc hk s m _ below hf ((Spec.applies_iff_loose hf).mp happ).1 ⟨rfl, State.Warmed39.refl s, rfl⟩ trivial
  refine ⟨n, _, h1, h2, h3, hpost _ _ _ _ _ _ ⟨Cond.after_iff.mpr rfl, Cond.after_iff.mpr (eq_i res_at (Term.int_eval (1)) rfl), trivial⟩ ⟨hq.1, hq.2.1, (hq.2.2.sift fun y hy => Or.inr (N y hy)).mono (by decide) (by decide)⟩⟩
theorem main_1_1 : Claimed_1_1 := comes_1 fun _ _ _ _ _ _ h hF => ⟨h.1, hF⟩
theorem main_1_2 : Claimed_1_2 := comes_1 fun _ _ _ _ _ _ h hF => ⟨h.2.1, hF⟩
end Jvm.Pilot.@@N@@
namespace Jvm.Pilot.@@N@@
open Jvm Jvm.ClassFile Sem Op Lib Jvm.Free Jvm.Stand Jvm.Pilot.@@N@@.Jvm.D
/-! MADE BY PROGRAM (witnessworld.py) out of the Statement's table words and the real class files: 11 classes; the members and pool entries that the words name. The judged class is class 1, her method 1. -/
namespace start1
open Jvm.ClassFile
def u (s : String) : CpInfo := .utf8 (stringToUtf16 s)
/-- a pool by its gaps: so many unusable entries, then the entry; so many at the end -/
def gap : Nat → List CpInfo → List CpInfo
  | 0, r => r
  | n + 1, r => .unusable :: gap n r
def poolList (es : List (Nat × CpInfo)) (last : Nat) : List CpInfo := es.foldr (fun e r => gap e.1 (e.2 :: r)) (gap last [])
def pool (es : List (Nat × CpInfo)) (last : Nat) : Array CpInfo := ⟨poolList es last⟩
def fileOf (pool : Array CpInfo) (this : Nat) (attrs : Array Attribute := #[]) (ms : Array MethodInfo := #[]) (fl : Nat := 33) (sup : Nat := 0) (ifs : Array Nat := #[]) (fds : Array FieldInfo := #[]) : ClassFile where
  minorVersion := 0
  majorVersion := 65
  constantPool := pool
  accessFlags := fl
  thisClass := this
  superClass := sup
  interfaces := ifs
  fields := fds
  methods := ms
  attributes := attrs
def plain (name : String) (sup : Option ClassId) : Class where
  name := name
  kind := .ordinary
  loader := none
  accessFlags := 33
  super := sup
  interfaces := #[]
  cf := none
  fields := #[]
  methods := #[]
  instanceTypes := #[]
  staticTypes := #[]
  resolved := #[]
  callSites := []
  init := .initialized
  statics := none
  mirror := none

def pool0 : Array CpInfo := pool [(5, u "<init>"), (0, u "()V"), (1, .class_ 10), (1, u "java/lang/Object")] 113

def k0c0 : Code := { maxStack := 0, maxLocals := 1, code := object_method_1_code, exceptionTable := #[], attributes := #[] }
def k0m0 : Method := { name := "<init>", desc := "()V", sig := { parameters := [], returnType := none }, accessFlags := 1, code := some k0c0 }
/-- java/lang/Object -/
def k0 : Class := { plain "java/lang/Object" none with
  accessFlags := 33
  interfaces := #[]
  cf := some (fileOf pool0 8 #[] #[{ accessFlags := 1, nameIndex := 5, descriptorIndex := 6, attributes := #[] }] 33 0 #[] #[])
  fields := #[]
  methods := #[k0m0]
  instanceTypes := #[]
  staticTypes := #[]
  resolved := Array.replicate 124 none
  statics := none }

def pool1 : Array CpInfo := pool [(2, .class_ 4), (0, .nameAndType 5 6), (0, u "java/lang/Object"), (0, u "<init>"), (0, u "()V"), (2, .class_ 10), (0, u "com/example/libforeword/libforeword/tree/NodeStore"), (0, .methodref 9 3), (0, .methodref 13 14), (0, .class_ 15), (0, .nameAndType 16 17), (0, u "com/example/libforeword/libforeword/tree/NodeStoreAddPinLaw"), (0, u "add"), (0, u "(Lcom/example/libforeword/libforeword/tree/NodeStore;[I)I"), (0, .methodref 13 19), (0, .nameAndType 20 17), (0, u "find"), (0, .methodref 9 22), (0, .nameAndType 16 23), (0, u "(IIIII)I"), (0, .methodref 9 25), (0, .nameAndType 20 23), (2, u "law"), (0, u "(IIIIII)Z")] 5

def k1m0 : Method := { name := "<init>", desc := "()V", sig := { parameters := [], returnType := none }, accessFlags := 1, code := none }
def k1c1 : Code := { maxStack := 4, maxLocals := 24, code := code, exceptionTable := #[], attributes := #[] }
def k1m1 : Method := { name := "law", desc := "(IIIIII)Z", sig := { parameters := [.int, .int, .int, .int, .int, .int], returnType := some .boolean }, accessFlags := 9, code := some k1c1 }
def k1c2 : Code := { maxStack := 7, maxLocals := 2, code := method_3_code, exceptionTable := #[], attributes := #[] }
def k1m2 : Method := { name := "add", desc := "(Lcom/example/libforeword/libforeword/tree/NodeStore;[I)I", sig := { parameters := [(.object "com/example/libforeword/libforeword/tree/NodeStore"), (.array .int)], returnType := some .int }, accessFlags := 10, code := some k1c2 }
def k1c3 : Code := { maxStack := 7, maxLocals := 2, code := method_4_code, exceptionTable := #[], attributes := #[] }
def k1m3 : Method := { name := "find", desc := "(Lcom/example/libforeword/libforeword/tree/NodeStore;[I)I", sig := { parameters := [(.object "com/example/libforeword/libforeword/tree/NodeStore"), (.array .int)], returnType := some .int }, accessFlags := 10, code := some k1c3 }
/-- com/example/libforeword/libforeword/tree/NodeStoreAddPinLaw -/
def k1 : Class := { plain "com/example/libforeword/libforeword/tree/NodeStoreAddPinLaw" (some 0) with
  accessFlags := 49
  interfaces := #[]
  cf := some (fileOf pool1 13 #[] #[{ accessFlags := 1, nameIndex := 5, descriptorIndex := 6, attributes := #[] }, { accessFlags := 9, nameIndex := 28, descriptorIndex := 29, attributes := #[] }, { accessFlags := 10, nameIndex := 16, descriptorIndex := 17, attributes := #[] }, { accessFlags := 10, nameIndex := 20, descriptorIndex := 17, attributes := #[] }] 49 2 #[] #[])
  fields := #[]
  methods := #[k1m0, k1m1, k1m2, k1m3]
  instanceTypes := #[]
  staticTypes := #[]
  resolved := Array.replicate 35 none
  statics := none }

def pool2 : Array CpInfo := pool [(1, .methodref 2 3), (0, .class_ 4), (0, .nameAndType 5 6), (0, u "java/lang/Object"), (0, u "<init>"), (0, u "()V"), (0, .fieldref 8 9), (0, .class_ 10), (0, .nameAndType 11 12), (0, u "com/example/libforeword/libforeword/tree/NodeStore"), (0, u "codePoints"), (0, u "[I"), (0, .fieldref 8 14), (0, .nameAndType 15 12), (0, u "frequencies"), (0, .fieldref 8 17), (0, .nameAndType 18 12), (0, u "lows"), (0, .fieldref 8 20), (0, .nameAndType 21 12), (0, u "equals"), (0, .fieldref 8 23), (0, .nameAndType 24 12), (0, u "highs"), (0, .methodref 8 26), (0, .nameAndType 27 28), (0, u "emptySlots"), (0, u "(I)[I"), (0, .fieldref 8 30), (0, .nameAndType 31 12), (0, u "slots"), (0, .methodref 8 33), (0, .nameAndType 34 35), (0, u "slot"), (0, u "(IIIII)I"), (2, .fieldref 8 39), (0, .nameAndType 40 41), (0, u "size"), (0, u "I"), (1, .class_ 45), (1, u "java/util/Arrays"), (5, .methodref 8 52), (0, .nameAndType 53 35), (0, u "hash"), (0, .methodref 8 55), (0, .nameAndType 56 57), (0, u "holds"), (0, u "(IIIIII)Z"), (0, .methodref 43 59), (0, .nameAndType 60 61), (0, u "fill"), (0, u "([II)V"), (0, .methodref 63 64), (0, .class_ 65), (0, .nameAndType 66 67), (0, u "com/example/libforeword/libforeword/tree/Slice"), (0, u "hashStep"), (0, u "(JI)J"), (5, u "add"), (1, u "find")] 4

def k2c0 : Code := { maxStack := 2, maxLocals := 1, code := prog_22_method_1_code, exceptionTable := #[], attributes := #[] }
def k2m0 : Method := { name := "<init>", desc := "()V", sig := { parameters := [], returnType := none }, accessFlags := 0, code := some k2c0 }
def k2c1 : Code := { maxStack := 6, maxLocals := 8, code := prog_22_method_2_code, exceptionTable := #[], attributes := #[] }
def k2m1 : Method := { name := "add", desc := "(IIIII)I", sig := { parameters := [.int, .int, .int, .int, .int], returnType := some .int }, accessFlags := 0, code := some k2c1 }
def k2c2 : Code := { maxStack := 7, maxLocals := 6, code := prog_22_method_3_code, exceptionTable := #[], attributes := #[] }
def k2m2 : Method := { name := "find", desc := "(IIIII)I", sig := { parameters := [.int, .int, .int, .int, .int], returnType := some .int }, accessFlags := 0, code := some k2c2 }
def k2c3 : Code := { maxStack := 7, maxLocals := 8, code := prog_22_method_4_code, exceptionTable := #[], attributes := #[] }
def k2m3 : Method := { name := "slot", desc := "(IIIII)I", sig := { parameters := [.int, .int, .int, .int, .int], returnType := some .int }, accessFlags := 2, code := some k2c3 }
def k2c4 : Code := { maxStack := 2, maxLocals := 7, code := prog_22_method_5_code, exceptionTable := #[], attributes := #[] }
def k2m4 : Method := { name := "holds", desc := "(IIIIII)Z", sig := { parameters := [.int, .int, .int, .int, .int, .int], returnType := some .boolean }, accessFlags := 2, code := some k2c4 }
def k2c5 : Code := { maxStack := 2, maxLocals := 2, code := prog_22_method_7_code, exceptionTable := #[], attributes := #[] }
def k2m5 : Method := { name := "emptySlots", desc := "(I)[I", sig := { parameters := [.int], returnType := some (.array .int) }, accessFlags := 10, code := some k2c5 }
def k2c6 : Code := { maxStack := 3, maxLocals := 7, code := prog_22_method_8_code, exceptionTable := #[], attributes := #[] }
def k2m6 : Method := { name := "hash", desc := "(IIIII)I", sig := { parameters := [.int, .int, .int, .int, .int], returnType := some .int }, accessFlags := 10, code := some k2c6 }
/-- com/example/libforeword/libforeword/tree/NodeStore -/
def k2 : Class := { plain "com/example/libforeword/libforeword/tree/NodeStore" (some 0) with
  accessFlags := 48
  interfaces := #[]
  cf := some (fileOf pool2 8 #[] #[{ accessFlags := 0, nameIndex := 5, descriptorIndex := 6, attributes := #[] }, { accessFlags := 0, nameIndex := 73, descriptorIndex := 35, attributes := #[] }, { accessFlags := 0, nameIndex := 75, descriptorIndex := 35, attributes := #[] }, { accessFlags := 2, nameIndex := 34, descriptorIndex := 35, attributes := #[] }, { accessFlags := 2, nameIndex := 56, descriptorIndex := 57, attributes := #[] }, { accessFlags := 10, nameIndex := 27, descriptorIndex := 28, attributes := #[] }, { accessFlags := 10, nameIndex := 53, descriptorIndex := 35, attributes := #[] }] 48 2 #[] #[{ accessFlags := 2, nameIndex := 11, descriptorIndex := 12, attributes := #[] }, { accessFlags := 2, nameIndex := 15, descriptorIndex := 12, attributes := #[] }, { accessFlags := 2, nameIndex := 18, descriptorIndex := 12, attributes := #[] }, { accessFlags := 2, nameIndex := 21, descriptorIndex := 12, attributes := #[] }, { accessFlags := 2, nameIndex := 24, descriptorIndex := 12, attributes := #[] }, { accessFlags := 2, nameIndex := 40, descriptorIndex := 41, attributes := #[] }, { accessFlags := 2, nameIndex := 31, descriptorIndex := 12, attributes := #[] }])
  fields := #[{ name := "codePoints", type := (.array .int), accessFlags := 2, slot := 0, constantValue := 0 }, { name := "frequencies", type := (.array .int), accessFlags := 2, slot := 1, constantValue := 0 }, { name := "lows", type := (.array .int), accessFlags := 2, slot := 2, constantValue := 0 }, { name := "equals", type := (.array .int), accessFlags := 2, slot := 3, constantValue := 0 }, { name := "highs", type := (.array .int), accessFlags := 2, slot := 4, constantValue := 0 }, { name := "size", type := .int, accessFlags := 2, slot := 5, constantValue := 0 }, { name := "slots", type := (.array .int), accessFlags := 2, slot := 6, constantValue := 0 }]
  methods := #[k2m0, k2m1, k2m2, k2m3, k2m4, k2m5, k2m6]
  instanceTypes := #[(.array .int), (.array .int), (.array .int), (.array .int), (.array .int), .int, (.array .int)]
  staticTypes := #[]
  resolved := Array.replicate 80 none
  statics := none }

def pool3 : Array CpInfo := pool [(2, .class_ 4), (1, u "java/lang/Object"), (0, u "<init>"), (0, u "()V"), (7, .class_ 16), (1, u "java/util/Arrays"), (57, .class_ 76), (1, u "java/util/Arrays$NaturalOrder"), (36, .class_ 115), (1, u "java/util/Arrays$LegacyMergeSort"), (1, u "Z"), (257, .class_ 376), (0, u "java/util/Arrays$ArrayList"), (68, u "$assertionsDisabled"), (269, u "MIN_ARRAY_SORT_GRAN"), (0, u "I"), (2, u "INSERTIONSORT_THRESHOLD"), (120, u "fill"), (4, u "([II)V"), (129, .class_ 976), (0, u "java/util/Arrays$ArrayItr")] 52

def k3m0 : Method := { name := "<init>", desc := "()V", sig := { parameters := [], returnType := none }, accessFlags := 2, code := none }
def k3c1 : Code := { maxStack := 3, maxLocals := 4, code := jdk_65_method_103_code, exceptionTable := #[], attributes := #[] }
def k3m1 : Method := { name := "fill", desc := "([II)V", sig := { parameters := [(.array .int), .int], returnType := none }, accessFlags := 9, code := some k3c1 }
/-- java/util/Arrays -/
def k3 : Class := { plain "java/util/Arrays" (some 0) with
  accessFlags := 49
  interfaces := #[]
  cf := some (fileOf pool3 14 #[.nestMembers #[975, 375, 113, 74]] #[{ accessFlags := 2, nameIndex := 5, descriptorIndex := 6, attributes := #[] }, { accessFlags := 9, nameIndex := 840, descriptorIndex := 845, attributes := #[] }] 49 2 #[] #[{ accessFlags := 26, nameIndex := 715, descriptorIndex := 716, attributes := #[] }, { accessFlags := 26, nameIndex := 719, descriptorIndex := 716, attributes := #[] }, { accessFlags := 4120, nameIndex := 445, descriptorIndex := 117, attributes := #[] }])
  fields := #[{ name := "MIN_ARRAY_SORT_GRAN", type := .int, accessFlags := 26, slot := 0, constantValue := 0 }, { name := "INSERTIONSORT_THRESHOLD", type := .int, accessFlags := 26, slot := 1, constantValue := 0 }, { name := "$assertionsDisabled", type := .boolean, accessFlags := 4120, slot := 2, constantValue := 0 }]
  methods := #[k3m0, k3m1]
  instanceTypes := #[]
  staticTypes := #[.int, .int, .boolean]
  resolved := Array.replicate 1029 none
  statics := none }

def pool4 : Array CpInfo := pool [(2, .class_ 4), (1, u "java/lang/Object"), (3, .class_ 10), (1, u "com/example/libforeword/libforeword/tree/Slice"), (0, u "numbers"), (0, u "[I"), (2, u "from"), (0, u "I"), (2, u "to"), (2, u "hashStep"), (0, u "(JI)J"), (2, u "hash"), (0, .long 11400714819323198485), (7, u "GOLDEN"), (0, u "J")] 11

def k4c0 : Code := { maxStack := 4, maxLocals := 3, code := prog_24_method_2_code, exceptionTable := #[], attributes := #[] }
def k4m0 : Method := { name := "hashStep", desc := "(JI)J", sig := { parameters := [.long, .int], returnType := some .long }, accessFlags := 8, code := some k4c0 }
/-- com/example/libforeword/libforeword/tree/Slice -/
def k4 : Class := { plain "com/example/libforeword/libforeword/tree/Slice" (some 0) with
  accessFlags := 48
  interfaces := #[]
  cf := some (fileOf pool4 8 #[] #[{ accessFlags := 8, nameIndex := 22, descriptorIndex := 23, attributes := #[] }] 48 2 #[] #[{ accessFlags := 26, nameIndex := 35, descriptorIndex := 36, attributes := #[] }, { accessFlags := 18, nameIndex := 11, descriptorIndex := 12, attributes := #[] }, { accessFlags := 18, nameIndex := 15, descriptorIndex := 16, attributes := #[] }, { accessFlags := 18, nameIndex := 19, descriptorIndex := 16, attributes := #[] }, { accessFlags := 18, nameIndex := 26, descriptorIndex := 16, attributes := #[] }])
  fields := #[{ name := "GOLDEN", type := .long, accessFlags := 26, slot := 0, constantValue := 0 }, { name := "numbers", type := (.array .int), accessFlags := 18, slot := 0, constantValue := 0 }, { name := "from", type := .int, accessFlags := 18, slot := 1, constantValue := 0 }, { name := "to", type := .int, accessFlags := 18, slot := 2, constantValue := 0 }, { name := "hash", type := .int, accessFlags := 18, slot := 3, constantValue := 0 }]
  methods := #[k4m0]
  instanceTypes := #[(.array .int), .int, .int, .int]
  staticTypes := #[.long]
  resolved := Array.replicate 48 none
  statics := none }

def pool5 : Array CpInfo := pool [(1, u "java/lang/Cloneable"), (0, .class_ 1), (0, u "java/lang/Object"), (0, .class_ 3)] 3

/-- java/lang/Cloneable -/
def k5 : Class := { plain "java/lang/Cloneable" (some 0) with
  accessFlags := 1537
  interfaces := #[]
  cf := some (fileOf pool5 2 #[] #[] 1537 4 #[] #[])
  fields := #[]
  methods := #[]
  instanceTypes := #[]
  staticTypes := #[]
  resolved := Array.replicate 8 none
  statics := none }

def pool6 : Array CpInfo := pool [(1, u "java/io/Serializable"), (0, .class_ 1), (0, u "java/lang/Object"), (0, .class_ 3)] 3

/-- java/io/Serializable -/
def k6 : Class := { plain "java/io/Serializable" (some 0) with
  accessFlags := 1537
  interfaces := #[]
  cf := some (fileOf pool6 2 #[] #[] 1537 4 #[] #[])
  fields := #[]
  methods := #[]
  instanceTypes := #[]
  staticTypes := #[]
  resolved := Array.replicate 8 none
  statics := none }

/-- the primitive byte -/
def k7 : Class := { plain "byte" none with kind := .primitive 'B', accessFlags := 0x411 }
/-- [B -/
def k8 : Class := { plain "[B" (some 0) with kind := .array 7 .byte, interfaces := #[5, 6], accessFlags := 1041 }

/-- the primitive int -/
def k9 : Class := { plain "int" none with kind := .primitive 'I', accessFlags := 0x411 }
/-- [I -/
def k10 : Class := { plain "[I" (some 0) with kind := .array 9 .int, interfaces := #[5, 6], accessFlags := 1041 }

def heap : Heap := #[]
def classes : Array Class := #[k0, k1, k2, k3, k4, k5, k6, k7, k8, k9, k10]
def interned : List (Array UInt16 × Addr) := []
def slotsUsed : Nat := 0
def theMethod : MethodId := ⟨1, 1⟩
def args0 : Array Value := #[.int 1, .int 2, .int 3, .int 4, .int 5, .int 9]
def aboutOver (below : List Frame) : State where
  vm := { classes := classes, interned := interned.toArray }
  heap := heap
  slotsUsed := slotsUsed
  threads := #[{ frames := .invoking theMethod args0 :: below }]
def below0 : List Frame := [.native { method := ⟨0, 0⟩, args := #[] }]
def about1 : State := aboutOver below0
def p0 : Program := .bare "" "" ""
def e0 : Env := launch0.env 0 0 0
theorem w_frames : about1.frames = Frame.invoking theMethod args0 :: below0 := rfl
set_option maxRecDepth 65536 in
theorem w_args : argsFit about1.vm theMethod args0 = true := by decide +kernel
set_option maxRecDepth 65536 in
theorem w_heap : heapFits about1 = true := by decide +kernel
set_option maxRecDepth 65536 in
theorem w_runnable : about1.curStatus? = some .runnable := by decide +kernel
set_option maxRecDepth 65536 in
theorem w_alone : about1.alone = true := by decide +kernel
set_option maxRecDepth 65536 in
theorem w_named : about1.methodNamed? x = some theMethod := by decide +kernel
set_option maxRecDepth 65536 in
theorem w_hears : about1.hears theMethod below0 = true := by decide +kernel
set_option maxRecDepth 65536 in
theorem w_ripe : about1.ripe theMethod args0 below0 = true := by decide +kernel
theorem w_running : about1.status = .running := rfl
set_option maxRecDepth 65536 in
theorem w_room : about1.hasRoom e0.platform room_1 = true :=
  launch0.hasRoom_least _ room_1 (by decide +kernel) (by decide +kernel) (by decide +kernel) (by decide +kernel) (by decide +kernel) (by decide +kernel)
theorem allAtoms_all (ts : List Jvm.Cond) (a : Array Jvm.Value) (st : Jvm.State) : (allAtoms ts).before a st = ts.all (fun c => c.before a st) := by
  induction ts with
  | nil => rfl
  | cons c t ih =>
    show (Jvm.Cond.and c (allAtoms t)).before a st = _
    rw [Jvm.Cond.before_and, ih, List.all_cons]
def words1 : List Jvm.Cond := Jvm.Cond.code x code maxLocals ret :: tables_1
/-- a 'code' word, met by the world's own term for the bytes: nothing is compared byte by byte -/
theorem code_word {y : MethodName} {bytes : ByteArray} {mx : Nat} {rt : Option FieldType} {a : Array Value} {s : State} {m : MethodId} {meth : Method} {c : Code} (h1 : s.methodNamed? y = some m) (h2 : s.vm.method? m = some meth) (h3 : meth.code = some c) (h4 : c.code = bytes)
    (h5 : (c.maxLocals == mx && c.exceptionTable.isEmpty && decide (c.maxStack ≤ mostOperands) && decide (meth.sig.returnType = rt) && !meth.locks && decide (parseMethodDescriptor y.desc = some meth.sig)) = true) : (Jvm.Cond.code y bytes mx rt).before a s = true := by
  simp only [Bool.and_eq_true, beq_iff_eq, Bool.not_eq_true', decide_eq_true_eq] at h5
  obtain ⟨⟨⟨⟨⟨g1, g2⟩, g3⟩, g4⟩, g5⟩, g6⟩ := h5
  simp [Cond.before, Cond.holds, Cond.value, h1, h2, h3, h4, g1, g2, g3, g4, g5, g6]
def isCode : Jvm.Cond → Bool
  | .code _ _ _ _ => true
  | _ => false
theorem all_split {L : List Jvm.Cond} {P : Jvm.Cond → Bool} (h1 : L.all (fun c => isCode c || P c) = true) (h2 : ∀ c ∈ L.filter isCode, P c = true) : L.all P = true := by
  refine List.all_eq_true.mpr fun c hc => ?_
  have h := List.all_eq_true.mp h1 c hc
  rcases Bool.eq_false_or_eq_true (isCode c) with hi | hi
  · exact h2 c (List.mem_filter.mpr ⟨hc, hi⟩)
  · simpa [hi] using h
set_option maxRecDepth 65536 in
theorem w_c0 : (Jvm.Cond.code x code maxLocals ret).before args0 about1 = true := code_word (m := ⟨1, 1⟩) (meth := k1m1) (c := k1c1) (by decide +kernel) rfl rfl rfl (by decide +kernel)
set_option maxRecDepth 65536 in
theorem w_c1 : (Jvm.Cond.code ({ cls := "com/example/libforeword/libforeword/tree/NodeStore", name := "<init>", desc := "()V" } : Jvm.MethodName) prog_22_method_1_code (1 : Nat) (Option.none : Option Jvm.ClassFile.FieldType)).before args0 about1 = true := code_word (m := ⟨2, 0⟩) (meth := k2m0) (c := k2c0) (by decide +kernel) rfl rfl rfl (by decide +kernel)
set_option maxRecDepth 65536 in
theorem w_c2 : (Jvm.Cond.code ({ cls := "java/lang/Object", name := "<init>", desc := "()V" } : Jvm.MethodName) object_method_1_code (1 : Nat) (Option.none : Option Jvm.ClassFile.FieldType)).before args0 about1 = true := code_word (m := ⟨0, 0⟩) (meth := k0m0) (c := k0c0) (by decide +kernel) rfl rfl rfl (by decide +kernel)
set_option maxRecDepth 65536 in
theorem w_c3 : (Jvm.Cond.code ({ cls := "com/example/libforeword/libforeword/tree/NodeStore", name := "emptySlots", desc := "(I)[I" } : Jvm.MethodName) prog_22_method_7_code (2 : Nat) (Option.some (Jvm.ClassFile.FieldType.array Jvm.ClassFile.FieldType.int))).before args0 about1 = true := code_word (m := ⟨2, 5⟩) (meth := k2m5) (c := k2c5) (by decide +kernel) rfl rfl rfl (by decide +kernel)
set_option maxRecDepth 65536 in
theorem w_c4 : (Jvm.Cond.code ({ cls := "java/util/Arrays", name := "fill", desc := "([II)V" } : Jvm.MethodName) jdk_65_method_103_code (4 : Nat) (Option.none : Option Jvm.ClassFile.FieldType)).before args0 about1 = true := code_word (m := ⟨3, 1⟩) (meth := k3m1) (c := k3c1) (by decide +kernel) rfl rfl rfl (by decide +kernel)
set_option maxRecDepth 65536 in
theorem w_c5 : (Jvm.Cond.code ({ cls := "com/example/libforeword/libforeword/tree/NodeStoreAddPinLaw", name := "add", desc := "(Lcom/example/libforeword/libforeword/tree/NodeStore;[I)I" } : Jvm.MethodName) method_3_code (2 : Nat) (Option.some Jvm.ClassFile.FieldType.int)).before args0 about1 = true := code_word (m := ⟨1, 2⟩) (meth := k1m2) (c := k1c2) (by decide +kernel) rfl rfl rfl (by decide +kernel)
set_option maxRecDepth 65536 in
theorem w_c6 : (Jvm.Cond.code ({ cls := "com/example/libforeword/libforeword/tree/NodeStore", name := "add", desc := "(IIIII)I" } : Jvm.MethodName) prog_22_method_2_code (8 : Nat) (Option.some Jvm.ClassFile.FieldType.int)).before args0 about1 = true := code_word (m := ⟨2, 1⟩) (meth := k2m1) (c := k2c1) (by decide +kernel) rfl rfl rfl (by decide +kernel)
set_option maxRecDepth 65536 in
theorem w_c7 : (Jvm.Cond.code ({ cls := "com/example/libforeword/libforeword/tree/NodeStore", name := "slot", desc := "(IIIII)I" } : Jvm.MethodName) prog_22_method_4_code (8 : Nat) (Option.some Jvm.ClassFile.FieldType.int)).before args0 about1 = true := code_word (m := ⟨2, 3⟩) (meth := k2m3) (c := k2c3) (by decide +kernel) rfl rfl rfl (by decide +kernel)
set_option maxRecDepth 65536 in
theorem w_c8 : (Jvm.Cond.code ({ cls := "com/example/libforeword/libforeword/tree/NodeStore", name := "hash", desc := "(IIIII)I" } : Jvm.MethodName) prog_22_method_8_code (7 : Nat) (Option.some Jvm.ClassFile.FieldType.int)).before args0 about1 = true := code_word (m := ⟨2, 6⟩) (meth := k2m6) (c := k2c6) (by decide +kernel) rfl rfl rfl (by decide +kernel)
set_option maxRecDepth 65536 in
theorem w_c9 : (Jvm.Cond.code ({ cls := "com/example/libforeword/libforeword/tree/Slice", name := "hashStep", desc := "(JI)J" } : Jvm.MethodName) prog_24_method_2_code (3 : Nat) (Option.some Jvm.ClassFile.FieldType.long)).before args0 about1 = true := code_word (m := ⟨4, 0⟩) (meth := k4m0) (c := k4c0) (by decide +kernel) rfl rfl rfl (by decide +kernel)
set_option maxRecDepth 65536 in
theorem w_c10 : (Jvm.Cond.code ({ cls := "com/example/libforeword/libforeword/tree/NodeStore", name := "holds", desc := "(IIIIII)Z" } : Jvm.MethodName) prog_22_method_5_code (7 : Nat) (Option.some Jvm.ClassFile.FieldType.boolean)).before args0 about1 = true := code_word (m := ⟨2, 4⟩) (meth := k2m4) (c := k2c4) (by decide +kernel) rfl rfl rfl (by decide +kernel)
set_option maxRecDepth 65536 in
theorem w_c11 : (Jvm.Cond.code ({ cls := "com/example/libforeword/libforeword/tree/NodeStoreAddPinLaw", name := "find", desc := "(Lcom/example/libforeword/libforeword/tree/NodeStore;[I)I" } : Jvm.MethodName) method_4_code (2 : Nat) (Option.some Jvm.ClassFile.FieldType.int)).before args0 about1 = true := code_word (m := ⟨1, 3⟩) (meth := k1m3) (c := k1c3) (by decide +kernel) rfl rfl rfl (by decide +kernel)
set_option maxRecDepth 65536 in
theorem w_c12 : (Jvm.Cond.code ({ cls := "com/example/libforeword/libforeword/tree/NodeStore", name := "find", desc := "(IIIII)I" } : Jvm.MethodName) prog_22_method_3_code (6 : Nat) (Option.some Jvm.ClassFile.FieldType.int)).before args0 about1 = true := code_word (m := ⟨2, 2⟩) (meth := k2m2) (c := k2c2) (by decide +kernel) rfl rfl rfl (by decide +kernel)
def codes1 : List Jvm.Cond := [Jvm.Cond.code x code maxLocals ret, Jvm.Cond.code ({ cls := "com/example/libforeword/libforeword/tree/NodeStore", name := "<init>", desc := "()V" } : Jvm.MethodName) prog_22_method_1_code (1 : Nat) (Option.none : Option Jvm.ClassFile.FieldType), Jvm.Cond.code ({ cls := "java/lang/Object", name := "<init>", desc := "()V" } : Jvm.MethodName) object_method_1_code (1 : Nat) (Option.none : Option Jvm.ClassFile.FieldType), Jvm.Cond.code ({ cls := "com/example/libforeword/libforeword/tree/NodeStore", name := "emptySlots", desc := "(I)[I" } : Jvm.MethodName) prog_22_method_7_code (2 : Nat) (Option.some (Jvm.ClassFile.FieldType.array Jvm.ClassFile.FieldType.int)), Jvm.Cond.code ({ cls := "java/util/Arrays", name := "fill", desc := "([II)V" } : Jvm.MethodName) jdk_65_method_103_code (4 : Nat) (Option.none : Option Jvm.ClassFile.FieldType), Jvm.Cond.code ({ cls := "com/example/libforeword/libforeword/tree/NodeStoreAddPinLaw", name := "add", desc := "(Lcom/example/libforeword/libforeword/tree/NodeStore;[I)I" } : Jvm.MethodName) method_3_code (2 : Nat) (Option.some Jvm.ClassFile.FieldType.int), Jvm.Cond.code ({ cls := "com/example/libforeword/libforeword/tree/NodeStore", name := "add", desc := "(IIIII)I" } : Jvm.MethodName) prog_22_method_2_code (8 : Nat) (Option.some Jvm.ClassFile.FieldType.int), Jvm.Cond.code ({ cls := "com/example/libforeword/libforeword/tree/NodeStore", name := "slot", desc := "(IIIII)I" } : Jvm.MethodName) prog_22_method_4_code (8 : Nat) (Option.some Jvm.ClassFile.FieldType.int), Jvm.Cond.code ({ cls := "com/example/libforeword/libforeword/tree/NodeStore", name := "hash", desc := "(IIIII)I" } : Jvm.MethodName) prog_22_method_8_code (7 : Nat) (Option.some Jvm.ClassFile.FieldType.int), Jvm.Cond.code ({ cls := "com/example/libforeword/libforeword/tree/Slice", name := "hashStep", desc := "(JI)J" } : Jvm.MethodName) prog_24_method_2_code (3 : Nat) (Option.some Jvm.ClassFile.FieldType.long), Jvm.Cond.code ({ cls := "com/example/libforeword/libforeword/tree/NodeStore", name := "holds", desc := "(IIIIII)Z" } : Jvm.MethodName) prog_22_method_5_code (7 : Nat) (Option.some Jvm.ClassFile.FieldType.boolean), Jvm.Cond.code ({ cls := "com/example/libforeword/libforeword/tree/NodeStoreAddPinLaw", name := "find", desc := "(Lcom/example/libforeword/libforeword/tree/NodeStore;[I)I" } : Jvm.MethodName) method_4_code (2 : Nat) (Option.some Jvm.ClassFile.FieldType.int), Jvm.Cond.code ({ cls := "com/example/libforeword/libforeword/tree/NodeStore", name := "find", desc := "(IIIII)I" } : Jvm.MethodName) prog_22_method_3_code (6 : Nat) (Option.some Jvm.ClassFile.FieldType.int)]
set_option maxRecDepth 65536 in
theorem codes_eq : words1.filter isCode = codes1 := rfl
theorem w_codes : ∀ c ∈ words1.filter isCode, c.before args0 about1 = true := by
  rw [codes_eq]
  intro c hc
  simp only [codes1, List.mem_cons, List.not_mem_nil, or_false] at hc
  rcases hc with rfl | rfl | rfl | rfl | rfl | rfl | rfl | rfl | rfl | rfl | rfl | rfl | rfl
  · exact w_c0
  · exact w_c1
  · exact w_c2
  · exact w_c3
  · exact w_c4
  · exact w_c5
  · exact w_c6
  · exact w_c7
  · exact w_c8
  · exact w_c9
  · exact w_c10
  · exact w_c11
  · exact w_c12
set_option maxRecDepth 65536 in
theorem w_t1 : (words1.take 24).all (fun c => isCode c || c.before args0 about1) = true := by decide +kernel
set_option maxRecDepth 65536 in
theorem w_t2 : ((words1.drop 24).take 24).all (fun c => isCode c || c.before args0 about1) = true := by decide +kernel
set_option maxRecDepth 65536 in
theorem w_t3 : ((words1.drop 24).drop 24).all (fun c => isCode c || c.before args0 about1) = true := by decide +kernel
theorem w_tables : (allAtoms (Jvm.Cond.code x code maxLocals ret :: tables_1)).before args0 about1 = true := by
  rw [allAtoms_all]
  show words1.all (fun c => c.before args0 about1) = true
  refine all_split ?_ w_codes
  rw [← List.take_append_drop 24 words1, List.all_append, w_t1, ← List.take_append_drop 24 (words1.drop 24), List.all_append, w_t2, w_t3]
  rfl
set_option maxRecDepth 65536 in
theorem w_case : (Jvm.Cond.and given_1 narrow_1).before args0 about1 = true := by decide +kernel
theorem w_applies : (headSpec (Jvm.Cond.code x code maxLocals ret :: tables_1) room_1).applies x e0.platform about1 = true :=
  (Spec.applies_iff w_frames).mpr ⟨w_running, w_runnable, w_alone, w_named, w_hears, w_ripe, w_room, w_tables⟩
theorem atStart : AtStart classFile x code maxLocals ret World_1 tables_1 room_1 Calls_1 rest_1 Pre_1 launch0 p0 e0 about1 theMethod args0 below0 :=
  ⟨lists_1, trivial, launch0.admits_env _ _ _, launch0.least_env, fairChoices_fair.cas, fairChoices_fair.clock, w_frames, w_args, w_heap, w_applies, trivial, trivial, w_case⟩
end start1
theorem witness_1 : WitnessClaimed_1 := ⟨start1.p0, start1.e0, start1.about1, start1.theMethod, start1.args0, start1.below0, start1.atStart⟩
end Jvm.Pilot.@@N@@
